import Derived.Test.YbulkcbigOwnE
namespace Go.Proofs.Ybulkcbig
open Go.RowKit
set_option linter.unusedVariables false

def code (n : Int) : Int := if n ≤ 64 then n - 4 else 60 + ext (n - 64)
def extra (n : Int) : Nat := if n ≤ 64 then 0 else ext (n - 64)
def word (F C o : Int) : Int := 7 + F * 8 + C * 32 + o * 2048
/-- The literals ahead of the last three. -/
def lits (ss : List Int) (a k : Nat) : List Int := if a < k then head ((k : Int) - a) ++ cut ss a k else []
def enc (ss : List Int) (a k b : Nat) (o n : Int) : List Int := lits ss a k ++ (le (word ((b : Int) - k) (code n) o) 4 ++ (le (n - 64) (extra n) ++ cut ss k b))

theorem code_rng (n : Int) (h0 : 4 ≤ n) : 0 ≤ code n ∧ code n ≤ 63 := by
  unfold code
  have := ext_le (n - 64)
  split <;> omega
theorem extra_le (n : Int) : extra n ≤ 3 := by
  unfold extra
  have := ext_le (n - 64)
  split <;> omega

theorem or32a (F : Int) (h0 : 0 ≤ F) (h3 : F ≤ 3) : bits .or .u32 7 (F * 8) = 7 + F * 8 :=
  bits_join_low .u32 32 (by decide) wraps_u32 3 7 (F * 8) (by omega) (by omega) (by omega) (by omega) (by omega) (by omega)
theorem or32b (F C : Int) (h0 : 0 ≤ F) (h3 : F ≤ 3) (c0 : 0 ≤ C) (c1 : C ≤ 63) : bits .or .u32 (7 + F * 8) (C * 32) = 7 + F * 8 + C * 32 :=
  bits_join_low .u32 32 (by decide) wraps_u32 5 (7 + F * 8) (C * 32) (by omega) (by omega) (by omega) (by omega) (by omega) (by omega)
theorem or32c (F C o : Int) (h0 : 0 ≤ F) (h3 : F ≤ 3) (c0 : 0 ≤ C) (c1 : C ≤ 63) (o0 : 0 ≤ o) (o1 : o < 2097152) : bits .or .u32 (7 + F * 8 + C * 32) (o * 2048) = word F C o :=
  bits_join_low .u32 32 (by decide) wraps_u32 11 (7 + F * 8 + C * 32) (o * 2048) (by omega) (by omega) (by omega) (by omega) (by omega) (by omega)
theorem wraps63 (n : Int) (h₀ : 0 ≤ n) (h₁ : n < 2 ^ 63) : IntKind.i64.wrap n = n := by rw [IntKind.wrap_i64]; omega
theorem or64a (F : Int) (h0 : 0 ≤ F) (h3 : F ≤ 3) : bits .or .i64 7 (F * 8) = 7 + F * 8 :=
  bits_join_low .i64 63 (by decide) wraps63 3 7 (F * 8) (by omega) (by omega) (by omega) (by omega) (by omega) (by omega)
theorem or64b (F C : Int) (h0 : 0 ≤ F) (h3 : F ≤ 3) (c0 : 0 ≤ C) (c1 : C ≤ 63) : bits .or .i64 (7 + F * 8) (C * 32) = 7 + F * 8 + C * 32 :=
  bits_join_low .i64 63 (by decide) wraps63 5 (7 + F * 8) (C * 32) (by omega) (by omega) (by omega) (by omega) (by omega) (by omega)
theorem or64c (F C o : Int) (h0 : 0 ≤ F) (h3 : F ≤ 3) (c0 : 0 ≤ C) (c1 : C ≤ 63) (o0 : 0 ≤ o) (o1 : o < 2097152) : bits .or .i64 (7 + F * 8 + C * 32) (o * 2048) = word F C o :=
  bits_join_low .i64 63 (by decide) wraps63 11 (7 + F * 8 + C * 32) (o * 2048) (by omega) (by omega) (by omega) (by omega) (by omega) (by omega)

/-- appendLiterals, both ways. -/
theorem lits_any (B : Nat) (v sv : Value) (a k : Nat) (xs ss : List Int) (w : World) (hown : Own B w v xs) (hB : B ≤ w.heap.size)
    (hs : a < k → ∃ gs cp, sv = .slice (some ⟨gs, 0, none⟩) ss.length cp ∧ Src w gs cp ss ∧ gs < B) (hsm : ss.length ≤ 1048576)
    (hak : a ≤ k) (hb : k ≤ ss.length) (hl : xs.length ≤ 10000000) :
    Calls Yba.prog 16 #[v, sv, .int .i64 a, .int .i64 k] w fun e w' => ∃ v', e = .returned v' ∧ Own B w' v' (xs ++ lits ss a k) ∧ Below B w w' := by
  by_cases h : a < k
  · obtain ⟨gs, cp, rfl, hsr, hg⟩ := hs h
    have e : lits ss a k = head ((k : Int) - a) ++ cut ss a k := if_pos h
    rw [e]
    exact lit_any B v gs cp a k xs ss w hown hB hsr hg hsm h hb hl
  · have e : lits ss a k = [] := if_neg h
    have : k = a := by omega
    subst this
    rw [e, List.append_nil]
    refine (lit_none v sv k w).mono ?_
    rintro e w' ⟨rfl, rfl⟩
    exact ⟨_, rfl, hown, Below.refl _ _⟩

theorem lits_len (ss : List Int) (a k : Nat) (hb : k ≤ ss.length) : (lits ss a k).length ≤ ss.length + 4 := by
  unfold lits
  split
  · rw [List.length_append, cut_len ss a k (by omega) hb]
    have : (head ((k : Int) - a)).length ≤ 4 := by
      unfold head
      split
      · simp
      · rw [List.length_cons, le_len]; have := ext_le ((k : Int) - a - 30); omega
    omega
  · simp

/-- append of nothing. -/
theorem wpList_append_nil {ops : Array Oper} {rest : List Oper} {o : Oper} {a : Act} {w : World} {Q : Exit → Act → World → Prop} (hgd : o.guard = none) (s x : Operand)
    (ho : o.op = .call { callee := .builtin .append, args := #[s, x], argTypes := #[36, 36] }) (v : Value) (hs : a.eval s = v) (hx : a.eval x = .slice none 0 0) (B : Nat) (xs : List Int) (hown : Own B w v xs)
    (h : wpList Yba.prog ops Q rest (a.put o.dst v) w) : wpList Yba.prog ops Q (o :: rest) a w := by
  obtain ⟨i0, hi, hz0, hz1, hz2⟩ := info_parts info5
  have hrun := run_append_owned_none (P := Yba.prog) w B 36 o.type 5 i0 1 Yba.underlying36 hi v _ _ hown
  refine wpList_plain hgd fun _ hK => ?_
  unfold Oper.wp
  simp [execOp, ho, resolve, invoke, builtin, hs, hx, hrun, Result.andThen]
  exact hK _ _ h

set_option maxHeartbeats 1600000 in
theorem copy3_gen (B : Nat) (v sv xv : Value) (a k b : Nat) (f n : Int) (xs ss : List Int) (w : World) (hown : Own B w v xs) (hB : B ≤ w.heap.size)
    (hs : a < k → ∃ gs cp, sv = .slice (some ⟨gs, 0, none⟩) ss.length cp ∧ Src w gs cp ss ∧ gs < B) (hsm : ss.length ≤ 1048576)
    (hsl : ∀ w', (Instr.slice 36 sv (some (.int .i64 (k : Int))) (some (.int .i64 (b : Int))) none).run Yba.prog w' = .ok xv w')
    (hxv : (xv = .slice none 0 0 ∧ k = b) ∨ ∃ ad c, xv = .slice (some ad) (b - k) c ∧ ∀ w', Below B w w' → ∀ j u, ((cut ss k b).map (Value.int .u8))[j]? = some u → w'.cell? (ad.add j) = some u)
    (hk : (b - a ≤ 3 ∧ k = a) ∨ (3 < b - a ∧ k = b - 3)) (hab : a ≤ b) (hb : b ≤ ss.length) (hl : xs.length ≤ 1048576) (o0 : 65536 ≤ f) (o1 : f < 2162688) (n0 : 4 ≤ n) (n1 : n < 100000000) :
    Calls Yba.prog 9 #[v, sv, .int .i64 a, .int .i64 b, .int .i64 f, .int .i64 n] w fun e w' => ∃ v', e = .returned v' ∧ Own B w' v' (xs ++ enc ss a k b (f - 65536) n) ∧ Below B w w' := by
  obtain ⟨i0, hi, hz0, hz1, hz2⟩ := info_parts info5
  have hll := lits_len ss a k (by omega)
  have H1 : Hid _ := lits_any B v sv a k xs ss w hown hB hs hsm (by omega) (by omega) (by omega)
  have H2 : Hid _ := fun w' => code_any n w' n0 (by omega)
  have hc := code_rng n n0
  have hx := extra_le n
  have hminA : min ((b : Int) - a) 3 = (b : Int) - k := by omega
  have hF0 : 0 ≤ (b : Int) - k := by omega
  have hF3 : (b : Int) - k ≤ 3 := by omega
  have hor1 := or32a ((b : Int) - k) hF0 hF3
  have hor2 := or32b ((b : Int) - k) (code n) hF0 hF3 hc.1 hc.2
  have hor3 := or32c ((b : Int) - k) (code n) (f - 65536) hF0 hF3 hc.1 hc.2 (by omega) (by omega)
  have H3 : Hid _ := fun (v' : Value) (w' : World) (ho : Own B w' v' (xs ++ lits ss a k)) (hbe : Below B w w') => app32_any B v' _ (word ((b : Int) - k) (code n) (f - 65536)) w' ho (by have := hbe.size; omega) (by unfold word; omega) (by unfold word; omega) (by rw [List.length_append]; omega)
  have H4 : Hid _ := fun (v' : Value) (w' : World) (ho : Own B w' v' (xs ++ lits ss a k ++ le (word ((b : Int) - k) (code n) (f - 65536)) 4)) (hbe : Below B w w') => ule_any B v' _ (n - 64) (extra n) w' ho (by have := hbe.size; omega) (by omega) (by rw [List.length_append, List.length_append, le_len]; omega)
  have H2' : Hid (∀ w', Calls Yba.prog 17 #[.int .i64 n] w' fun e w'' => e = .returned (.tuple #[.int .i64 (code n), .int .i64 (extra n : Nat)]) ∧ w'' = w') := fun w' => by
    refine (H2.out w').mono ?_
    rintro e w'' ⟨rfl, rfl⟩
    refine ⟨?_, rfl⟩
    unfold code extra
    split <;> rfl
  clear H2 hown hs
  generalize hC : code n = C at *
  generalize hE : extra n = E at *
  generalize hW : word ((b : Int) - k) C (f - 65536) = W at *
  go_enter Yba.func9, Yba.ntmps9
  go_wp2_with fail
  all_goals
    first
      | rw [show (b : Int) - ((b : Int) - a) = (k : Int) by omega]
      | rw [show (b : Int) - 3 = (k : Int) by omega]
    refine Calls.mono H1.out ?_
    rintro e w1 ⟨v1, rfl, ho1, hb1⟩
    have H3' : Hid _ := H3.out v1 w1 ho1 hb1
    have HB1 : Hid _ := hb1
    clear ho1 hb1
    go_wp2_with fail
    refine Calls.mono (H2'.out _) ?_
    rintro e w2 ⟨rfl, rfl⟩
    go_wp2_with fail
    refine Calls.mono H3'.out ?_
    rintro e w3 ⟨v3, rfl, ho3, hb3⟩
    have H4' : Hid _ := H4.out v3 w3 ho3 (HB1.out.trans hb3)
    have HB3 : Hid _ := HB1.out.trans hb3
    clear ho3 hb3
    go_wp2_with fail
    refine Calls.mono H4'.out ?_
    rintro e w4 ⟨v4, rfl, ho4, hb4⟩
    have HO4 : Hid (Own B w4 v4 (xs ++ lits ss a k ++ le W 4 ++ le (n - 64) E)) := ho4
    have hb5 : Below B w w4 := HB3.out.trans hb4
    have hsz := hb5.size
    have hl4 : (xs ++ lits ss a k ++ le W 4 ++ le (n - 64) E).length ≤ 10000000 := by simp only [List.length_append, le_len]; omega
    have HB4 : Hid _ := hb5
    clear ho4 hb4 hb5
    have HX := hxv
    rcases HX with ⟨rfl, hkb⟩ | ⟨ad, c, rfl, hnw⟩
    · have HK : Hid (k = b) := hkb
      clear hkb hxv
      go_wp2_with (at_builtin; refine wpList_append_nil rfl _ _ rfl _ rfl rfl B _ HO4.out ?_)
      go_ret
      refine ⟨v4, rfl, ?_, HB4.out⟩
      have hh := HO4.out
      unfold enc
      rw [hC, hE, hW]
      have hcut : cut ss k b = [] := by rw [HK.out]; simp [cut]
      rw [hcut]
      simpa only [List.append_assoc, List.append_nil] using hh
    · have HNW : Hid _ := hnw w4 HB4.out
      clear hnw hxv
      go_wp2_with (at_builtin; refine wpList_append_own _ rfl _ _ 36 rfl B 5 i0 (.int .u8 0) 1 1 Yba.underlying36 hi hz0 hz1 hz2 rfl (by decide) _ _ _ rfl HO4.out ad (b - k) c ((cut ss k b).map (Value.int .u8)) rfl (by rw [List.length_map, cut_len ss k b (by omega) hb, Nat.mul_one]) HNW.out (one_u8 _) (by unfold maxLen; omega) (by omega) (by omega) ?_; intro v' w3 hown' hgrow3 hnil3)
      go_ret
      have hP := own_many (bs := cut ss k b) HO4.out (by omega) (by rw [cut_len ss k b (by omega) hb]; exact hown') hgrow3
      refine ⟨v', rfl, ?_, HB4.out.trans hP.2⟩
      have hh := hP.1
      unfold enc
      rw [hC, hE, hW]
      simpa only [List.append_assoc] using hh
end Go.Proofs.Ybulkcbig
