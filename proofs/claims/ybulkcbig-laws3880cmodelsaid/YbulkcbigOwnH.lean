import Derived.Test.YbulkcbigOwnG
import Derived.WalkKit
namespace Go.Proofs.Ybulkcbig
open Go.RowKit
set_option linter.unusedVariables false

/-- A slice of bytes that came in. -/
def In (w : World) (a : Option Addr) (len : Nat) (ss : List Int) : Prop :=
  ss.length = len ∧ ((a = none ∧ len = 0) ∨ ∃ x, a = some x ∧ (0 < len → x.block < w.heap.size) ∧ ∀ i, i < len → w.cell? (x.add i) = some (.int .u8 (ss.getD i 0)))

theorem In.below {w w' : World} {a : Option Addr} {len : Nat} {ss : List Int} (h : In w a len ss) (hb : Below w.heap.size w w') : In w' a len ss := by
  obtain ⟨h0, h | ⟨x, rfl, hx, hc⟩⟩ := h
  · exact ⟨h0, .inl h⟩
  · refine ⟨h0, .inr ⟨x, rfl, fun h => Nat.lt_of_lt_of_le (hx h) hb.size, fun i hi => ?_⟩⟩
    rw [hb.cell (p := x.add i) (by unfold Addr.add; split <;> exact hx (by omega))]
    exact hc i hi

theorem In.str {w : World} {a : Option Addr} {len cap : Nat} {ss : List Int} (h : In w a len ss) : (convert 36 9 (.slice a len cap)).run Yba.prog w = .ok (.string (strOfNums ss)) w := by
  obtain ⟨h0, ⟨rfl, h1⟩ | ⟨x, rfl, hx, hc⟩⟩ := h
  · obtain rfl : ss = [] := List.eq_nil_of_length_eq_zero (by omega)
    exact run_convert_bytes_nil w 36 5 Yba.underlying36 Yba.underlying5 _ _ 9 Yba.underlying9
  · exact str_of w x len cap ss h0 (fun i hi => hc i (by omega))

/-- append of a slice that came in, onto nothing. -/
theorem wpList_append_in {ops : Array Oper} {rest : List Oper} {o : Oper} {a : Act} {w : World} {Q : Exit → Act → World → Prop} (hgd : o.guard = none) (s x : Operand)
    (ho : o.op = .call { callee := .builtin .append, args := #[s, x], argTypes := #[36, 36] }) (hs : a.eval s = .slice none 0 0) (sa : Option Addr) (len cap : Nat) (hx : a.eval x = .slice sa len cap) (hcap : sa = none → cap = 0) (ss : List Int) (hin : In w sa len ss) (hl : len ≤ 1048576)
    (h : ∀ v' w', Own w.heap.size w' v' ss → Below w.heap.size w w' → wpList Yba.prog ops Q rest (a.put o.dst v') w') : wpList Yba.prog ops Q (o :: rest) a w := by
  obtain ⟨i0, hi, hz0, hz1, hz2⟩ := info_parts info5
  have hnil : Own w.heap.size w (.slice none 0 0) [] := World.ownsRow_nil _ _ _ _
  obtain ⟨h0, ⟨rfl, h1⟩ | ⟨ad, rfl, hxb, hc⟩⟩ := hin
  · obtain rfl : ss = [] := List.eq_nil_of_length_eq_zero (by omega)
    subst h1
    rw [hcap rfl] at hx
    exact wpList_append_nil hgd s x ho _ hs hx _ _ hnil (h _ _ hnil (Below.refl _ _))
  · refine wpList_append_own _ hgd s x 36 ho w.heap.size 5 i0 (.int .u8 0) 1 1 Yba.underlying36 hi hz0 hz1 hz2 rfl (by decide) _ _ _ hs hnil ad len cap (ss.map (Value.int .u8)) hx (by rw [List.length_map]; omega) (fun j u hu => ?_) (one_u8 _) (by unfold maxLen; simp; omega) (by simp; omega) (Nat.le_refl _) ?_
    · rw [List.getElem?_map, Option.map_eq_some_iff] at hu
      obtain ⟨y, hy, rfl⟩ := hu
      have hj := (List.getElem?_eq_some_iff.1 hy).1
      rw [hc j (by omega)]
      simp [List.getD_eq_getElem?_getD, hy]
    · intro v' w' hown hg _
      have hP := own_many (bs := ss) hnil (Nat.le_refl _) (by rw [h0]; exact hown) hg
      exact h v' w' hP.1 hP.2

theorem own_form {B : Nat} {w : World} {v : Value} {xs : List Int} (h : Own B w v xs) : ∃ a cap, v = .slice a xs.length cap ∧ (a = none → cap = 0) := by
  rcases h.2 with ⟨rfl, h1⟩ | ⟨g, cap, cur, rfl, _⟩
  · exact ⟨none, 0, by rw [h1], fun _ => rfl⟩
  · exact ⟨_, _, rfl, fun h => by cases h⟩
end Go.Proofs.Ybulkcbig
