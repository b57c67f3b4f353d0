import Derived.Test.YbulkcbigOwnD
namespace Go.Proofs.Ybulkcbig
open Go.RowKit
set_option linter.unusedVariables false

theorem Src.news {w : World} {g cp : Nat} {ss : List Int} (h : Src w g cp ss) (a b : Nat) (hb : b ≤ ss.length) : ∀ j u, ((cut ss a b).map (Value.int .u8))[j]? = some u → w.cell? ((⟨g, a, none⟩ : Addr).add j) = some u := by
  intro j u hu
  rw [Addr.add_mid]
  exact h.range a b hb j u hu
theorem one_u8 (xs : List Int) : ∀ u ∈ xs.map (Value.int .u8), u.oneCell' = true := fun v hv => by
  obtain ⟨x, _, rfl⟩ := List.mem_map.1 hv; rfl

set_option maxHeartbeats 1600000 in
theorem apb_slow (B gs cp a b N cap : Nat) (va : Option Addr) (xs ss : List Int) (w : World) (hN : xs.length = N) (hnc : N ≤ cap) (hcm : cap ≤ maxLen) (hown : Own B w (.slice va N cap) xs) (hB : B ≤ w.heap.size) (hs : Src w gs cp ss) (hsm : ss.length ≤ 1048576)
    (hab : a < b) (hb : b ≤ ss.length) (hl : xs.length ≤ 100000000) (hslow : ¬ (b ≤ a + 16 ∧ a + 16 ≤ ss.length ∧ xs.length + 16 ≤ cap)) :
    Calls Yba.prog 21 #[.slice va N cap, .slice (some ⟨gs, 0, none⟩) ss.length cp, .int .i64 a, .int .i64 b] w fun e w' => ∃ v', e = .returned v' ∧ Own B w' v' (xs ++ cut ss a b) ∧ Below B w w' := by
  obtain ⟨i0, hi, hz0, hz1, hz2⟩ := info_parts info5
  have HO : Hid (Own B w (.slice va N cap) xs) := hown
  have HN : Hid _ := hs.news a b hb
  have HL : Hid _ := cut_len ss a b (by omega) hb
  have hcap := hs.cap
  have hlim := hs.lim
  clear hown hs
  unfold maxLen at hcm hlim
  rcases (show a + 16 < b ∨ (b ≤ a + 16 ∧ ss.length < a + 16) ∨ (b ≤ a + 16 ∧ a + 16 ≤ ss.length ∧ cap < N + 16) by omega) with h | h | h
  all_goals
    clear hslow
    generalize hM : ss.length = M at *
    go_enter Yba.func21, Yba.ntmps21
    go_wp2_with (at_builtin; refine wpList_append_own _ rfl _ _ 36 rfl B 5 i0 (.int .u8 0) 1 1 Yba.underlying36 hi hz0 hz1 hz2 rfl (by decide) _ _ _ rfl HO.out ⟨gs, a, none⟩ (b - a) (cp - a) ((cut ss a b).map (Value.int .u8)) rfl (by rw [List.length_map, HL.out, Nat.mul_one]) HN.out (one_u8 _) (by unfold maxLen; omega) (by omega) hB ?_; intro v' w3 hown' hgrow3 hnil3)
    go_ret
    have hP := own_many (bs := cut ss a b) HO.out hB (by rw [HL.out]; exact hown') hgrow3
    exact ⟨_, rfl, hP.1, hP.2⟩

theorem apb_any (B : Nat) (v : Value) (gs cp a b : Nat) (xs ss : List Int) (w : World) (hown : Own B w v xs) (hB : B ≤ w.heap.size) (hs : Src w gs cp ss) (hsm : ss.length ≤ 1048576)
    (hab : a < b) (hb : b ≤ ss.length) (hl : xs.length ≤ 100000000) :
    Calls Yba.prog 21 #[v, .slice (some ⟨gs, 0, none⟩) ss.length cp, .int .i64 a, .int .i64 b] w fun e w' => ∃ v', e = .returned v' ∧ Own B w' v' (xs ++ cut ss a b) ∧ Below B w w' := by
  rcases hown.2 with ⟨rfl, h0⟩ | ⟨g, cap, cur, rfl, hbg, hg, hnc, hcm, hsz, htk⟩
  · exact apb_slow B gs cp a b 0 0 none xs ss w h0 (by omega) (by omega) hown hB hs hsm hab hb hl (by omega)
  · by_cases h : b ≤ a + 16 ∧ a + 16 ≤ ss.length ∧ xs.length + 16 ≤ cap
    · exact apb_quick B g cap gs cp a b xs ss w hown hB hs hab hb h.1 h.2.1 h.2.2
    · exact apb_slow B gs cp a b xs.length cap (some ⟨g, 0, none⟩) xs ss w rfl hnc hcm hown hB hs hsm hab hb hl h

set_option maxHeartbeats 800000 in
theorem lit_any (B : Nat) (v : Value) (gs cp a b : Nat) (xs ss : List Int) (w : World) (hown : Own B w v xs) (hB : B ≤ w.heap.size) (hs : Src w gs cp ss) (hgs : gs < B) (hsm : ss.length ≤ 1048576)
    (hab : a < b) (hb : b ≤ ss.length) (hl : xs.length ≤ 10000000) :
    Calls Yba.prog 16 #[v, .slice (some ⟨gs, 0, none⟩) ss.length cp, .int .i64 a, .int .i64 b] w fun e w' => ∃ v', e = .returned v' ∧ Own B w' v' (xs ++ (head ((b : Int) - a) ++ cut ss a b)) ∧ Below B w w' := by
  have H1 : Hid _ := applen_any B v xs ((b : Int) - a) w hown hB (by omega) (by omega) (by omega)
  have hhl : (head ((b : Int) - a)).length ≤ 4 := by
    unfold head
    split
    · simp
    · rw [List.length_cons, le_len]; have := ext_le ((b : Int) - a - 30); omega
  have H2 : Hid _ := fun (v' : Value) (w' : World) (ho : Own B w' v' (xs ++ head ((b : Int) - a))) (hbe : Below B w w') => apb_any B v' gs cp a b _ ss w' ho (by have := hbe.size; omega) (hs.below hgs hbe) hsm hab hb (by rw [List.length_append]; omega)
  have hne : ((a : Int) == (b : Int)) = false := by simp; omega
  clear hs hown
  go_enter Yba.func16, Yba.ntmps16
  go_wp2_with fail
  refine Calls.mono H1.out ?_
  rintro e w1 ⟨v1, rfl, ho1, hb1⟩
  have H3 : Hid _ := H2.out v1 w1 ho1 hb1
  have HB : Hid _ := hb1
  clear ho1 hb1
  go_wp2_with fail
  refine Calls.mono H3.out ?_
  rintro e w2 ⟨v2, rfl, ho2, hb2⟩
  have H4 : Hid _ := And.intro ho2 hb2
  clear ho2 hb2
  go_wp2_with fail
  go_ret
  exact ⟨_, rfl, by rw [← List.append_assoc]; exact H4.out.1, HB.out.trans H4.out.2⟩

theorem lit_none (v a : Value) (x : Int) (w : World) :
    Calls Yba.prog 16 #[v, a, .int .i64 x, .int .i64 x] w fun e w' => e = .returned v ∧ w' = w := by
  go_enter Yba.func16, Yba.ntmps16
  go_wp2
  go_ret
  exact ⟨rfl, rfl⟩
end Go.Proofs.Ybulkcbig
