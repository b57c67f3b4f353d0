import Derived.Test.YbulkcbigOwnF
import Derived.Laws.BytesArg
namespace Go.Proofs.Ybulkcbig
open Go.RowKit
set_option linter.unusedVariables false

theorem eq_any (u v : Value) (s : ByteArray) (w : World) (h1 : (convert 36 9 u).run Yba.prog w = .ok (.string s) w) (h2 : (convert 36 9 v).run Yba.prog w = .ok (.string s) w) :
    Calls Yba.prog 12 #[u, v] w fun e w' => e = .returned (.bool true) ∧ w' = w := by
  go_enter Yba.func12, Yba.ntmps12
  go_wp2
  go_ret
  exact ⟨rfl, rfl⟩

theorem str_of (w : World) (x : Addr) (len cap : Nat) (xs : List Int) (hlen : xs.length = len) (hc : ∀ i, i < xs.length → w.cell? (x.add i) = some (.int .u8 (xs.getD i 0))) :
    (convert 36 9 (.slice (some x) len cap)).run Yba.prog w = .ok (.string (strOfNums xs)) w := by
  have hl : (loadCells x len).run Yba.prog w = .ok (xs.map (Value.int .u8)).toArray w := by
    have := run_loadCells_list (P := Yba.prog) w x (xs.map (Value.int .u8)) (fun j v hj => by
      rw [List.getElem?_map, Option.map_eq_some_iff] at hj
      obtain ⟨y, hy, rfl⟩ := hj
      have hjl := (List.getElem?_eq_some_iff.1 hy).1
      rw [hc j hjl]
      simp [List.getD_eq_getElem?_getD, hy])
    simpa [hlen] using this
  rw [run_convert_bytes_string w 36 9 5 _ len cap Yba.underlying36 Yba.underlying5 Yba.underlying9, run_bytesToString w _ len cap xs hl, foldl_push_bytes]
  simp [strOfNums, ByteArray.empty, ByteArray.emptyWithCapacity]
  rfl

theorem str_nil (w : World) : (convert 36 9 (.slice none 0 0)).run Yba.prog w = .ok (.string (strOfNums [])) w :=
  run_convert_bytes_nil w 36 5 Yba.underlying36 Yba.underlying5 0 0 9 Yba.underlying9

theorem own_src {B : Nat} {w : World} {g cap : Nat} {xs : List Int} (h : Own B w (.slice (some ⟨g, 0, none⟩) xs.length cap) xs) : Src w g cap xs := by
  rcases h.2 with ⟨h', _⟩ | ⟨g', cap', cur, hv, hbg, hg, hnc, hcm, hsz, htk⟩
  · cases h'
  · simp only [Value.slice.injEq, Option.some.injEq, Addr.mk.injEq, and_true, true_and] at hv
    obtain ⟨rfl, rfl⟩ := hv
    refine ⟨fun j hj => ?_, hnc, hcm⟩
    rw [World.ownsRow.cellAt h j (by omega), List.getElem?_map, List.getElem?_eq_getElem hj]
    simp [List.getD_eq_getElem?_getD, List.getElem?_eq_getElem hj]

theorem own_str {B : Nat} {w : World} {v : Value} {xs : List Int} (h : Own B w v xs) : (convert 36 9 v).run Yba.prog w = .ok (.string (strOfNums xs)) w := by
  have h0 := h
  rcases h.2 with ⟨rfl, h1⟩ | ⟨g, cap, cur, rfl, _⟩
  · obtain rfl : xs = [] := List.eq_nil_of_length_eq_zero h1
    exact str_nil w
  · have hs := own_src h0
    exact str_of w _ _ _ xs rfl (fun i hi => by rw [Addr.add_mid, Nat.zero_add]; exact hs.cell i hi)

/-- What a slice that is at hand is: nil, or a row in a block below B. -/
def At (B : Nat) (w : World) (sv : Value) (ss : List Int) : Prop := (sv = .slice none 0 0 ∧ ss = []) ∨ ∃ gs cp, sv = .slice (some ⟨gs, 0, none⟩) ss.length cp ∧ Src w gs cp ss ∧ gs < B

theorem own_at {B B' : Nat} {w : World} {v : Value} {xs : List Int} (h : Own B w v xs) (hB : w.heap.size ≤ B') : At B' w v xs := by
  have h0 := h
  rcases h.2 with ⟨rfl, h1⟩ | ⟨g, cap, cur, rfl, _⟩
  · exact .inl ⟨rfl, List.eq_nil_of_length_eq_zero h1⟩
  · exact .inr ⟨g, cap, rfl, own_src h0, by have := (h0.lt g rfl).2; omega⟩

theorem At.below {B : Nat} {w w' : World} {sv : Value} {ss : List Int} (h : At B w sv ss) (hb : Below B w w') : At B w' sv ss := by
  rcases h with h | ⟨gs, cp, rfl, hs, hg⟩
  · exact .inl h
  · exact .inr ⟨gs, cp, rfl, hs.below hg hb, hg⟩

theorem slice_nil (w : World) : (Instr.slice 36 (.slice none 0 0) (some (.int .i64 ((0 : Nat) : Int))) (some (.int .i64 ((0 : Nat) : Int))) none).run Yba.prog w = .ok (.slice none 0 0) w := by kernel_rfl

theorem size5 : Yba.prog.cellsOf 5 = 1 := by kernel_rfl
theorem slice_at (w : World) (gs M cp k b : Nat) (hk : k ≤ b) (hb : b ≤ cp) : (Instr.slice 36 (.slice (some ⟨gs, 0, none⟩) M cp) (some (.int .i64 (k : Int))) (some (.int .i64 (b : Int))) none).run Yba.prog w = .ok (.slice (some (if cp = k then ⟨gs, 0, none⟩ else ⟨gs, k, none⟩)) (b - k) (cp - k)) w := by
  have h1 : (k : Int) ≤ (b : Int) := by omega
  have h2 : (b : Int) ≤ (cp : Int) := by omega
  go_simp
  split <;> rfl

theorem copy3_any (B : Nat) (v sv : Value) (a k b : Nat) (f n : Int) (xs ss : List Int) (w : World) (hown : Own B w v xs) (hB : B ≤ w.heap.size) (hs : At B w sv ss) (hsm : ss.length ≤ 1048576)
    (hk : (b - a ≤ 3 ∧ k = a) ∨ (3 < b - a ∧ k = b - 3)) (hab : a ≤ b) (hb : b ≤ ss.length) (hl : xs.length ≤ 1048576) (o0 : 65536 ≤ f) (o1 : f < 2162688) (n0 : 4 ≤ n) (n1 : n < 100000000) :
    Calls Yba.prog 9 #[v, sv, .int .i64 a, .int .i64 b, .int .i64 f, .int .i64 n] w fun e w' => ∃ v', e = .returned v' ∧ Own B w' v' (xs ++ enc ss a k b (f - 65536) n) ∧ Below B w w' := by
  rcases hs with ⟨rfl, rfl⟩ | ⟨gs, cp, rfl, hsr, hg⟩
  · have hb0 : b = 0 := by simpa using hb
    subst hb0
    obtain rfl : a = 0 := by omega
    obtain rfl : k = 0 := by omega
    exact copy3_gen B v _ _ 0 0 0 f n xs [] w hown hB (fun h => by omega) (by simp) slice_nil (.inl ⟨rfl, rfl⟩) (.inl ⟨by omega, rfl⟩) (by omega) (by simp) hl o0 o1 n0 n1
  · have hcap := hsr.cap
    have hlim := hsr.lim
    refine copy3_gen B v _ (.slice (some (if cp = k then ⟨gs, 0, none⟩ else ⟨gs, k, none⟩)) (b - k) (cp - k)) a k b f n xs ss w hown hB (fun _ => ⟨gs, cp, rfl, hsr, hg⟩) hsm ?_ (.inr ⟨_, _, rfl, ?_⟩) hk hab hb hl o0 o1 n0 n1
    · intro w'
      exact slice_at w' gs _ cp k b (by omega) (by omega)
    · intro w' hbe j u hu
      have hsr' := hsr.below hg hbe
      by_cases hck : cp = k
      · have : cut ss k b = [] := by
          have hbk : b = k := by omega
          rw [hbk]; simp [cut]
        rw [this] at hu
        simp at hu
      · rw [if_neg hck]
        exact hsr'.news k b hb j u hu
end Go.Proofs.Ybulkcbig
