import Derived.Test.YbulkcbhePartsC
namespace Go.Proofs.Ybulkcbhe
open Go.RowKit Go.Sort
set_option linter.unusedVariables false

theorem mid_len (A T : List Int) (p : Int) : (A ++ p :: T).length = A.length + T.length + 1 := by simp; omega
theorem mid_at (A T : List Int) (p : Int) : (A ++ p :: T).getD A.length 0 = p := by simp [List.getD_eq_getElem?_getD]
theorem app_at (A T : List Int) (k : Nat) : (A ++ T).getD k 0 = if k < A.length then A.getD k 0 else T.getD (k - A.length) 0 := by
  simp only [List.getD_eq_getElem?_getD]
  by_cases h : k < A.length
  · rw [if_pos h, List.getElem?_append_left h]
  · rw [if_neg h, List.getElem?_append_right (by omega)]

theorem found_rem {A T : List Int} {p : Int} {bc off cp run i : Nat} (hA : ∀ a ∈ A, a < p) (hT : ∀ a ∈ T, p < a)
    (hf : FoundAt 1 (runX bc off cp (A ++ p :: T)) p run i) : run = 0 ∧ i = A.length := by
  obtain ⟨h1, h2, h3, h4⟩ := hf
  have hlen := mid_len A T p
  have hr : run = 0 := by
    rcases Nat.eq_zero_or_pos run with h | h
    · exact h
    · exfalso
      have := h2 0 h
      have e : (runX bc off cp (A ++ p :: T) 0).x ((runX bc off cp (A ++ p :: T) 0).len - 1) = (A ++ p :: T).getD (A.length + T.length) 0 := by
        show (A ++ p :: T).getD ((A ++ p :: T).length - 1) 0 = _
        rw [hlen]; rfl
      rw [e, app_at, if_neg (by omega), show A.length + T.length - A.length = T.length by omega] at this
      rcases List.eq_nil_or_concat T with h5 | ⟨T', t, h5⟩
      · subst h5; simp at this
      · have ht := hT t (by rw [h5]; simp)
        rw [h5] at this
        simp [List.getD_eq_getElem?_getD] at this
        omega
  subst hr
  obtain ⟨k1, k2, k3⟩ := h3 (by omega)
  have k1' : i < (A ++ p :: T).length := k1
  have k3' : p ≤ (A ++ p :: T).getD i 0 := k3
  refine ⟨rfl, ?_⟩
  rcases Nat.lt_trichotomy i A.length with h | h | h
  · exfalso
    rw [app_at, if_pos h, int_getD _ _ h] at k3'
    have := hA _ (List.getElem_mem h)
    omega
  · exact h
  · exfalso
    have h5 : (A ++ p :: T).getD A.length 0 < p := k2 A.length h
    rw [mid_at] at h5
    omega

/-- The cells of A moved up by one, the run cut at its front. -/
theorem rem_front {cur c2 : Array Value} {off : Nat} {A T : List Int} {p : Int}
    (hnum : ∀ i, i < (A ++ p :: T).length → cur[off + i]? = some (.int .i16 ((A ++ p :: T).getD i 0)))
    (hc2 : ∀ k, c2[k]? = if off + 1 ≤ k ∧ k < off + 1 + (A.map (Value.int .i16)).length then (A.map (Value.int .i16))[k - (off + 1)]? else cur[k]?) (v : Value) :
    ∀ k, k < (A ++ T).length → (c2.setIfInBounds off v)[off + 1 + k]? = some (.int .i16 ((A ++ T).getD k 0)) := by
  intro k hk
  have hl : (A ++ T).length = A.length + T.length := by simp
  have hl2 := mid_len A T p
  rw [Array.getElem?_setIfInBounds, if_neg (by omega), hc2, List.length_map, app_at]
  by_cases h : k < A.length
  · rw [if_pos (by omega), if_pos h, show off + 1 + k - (off + 1) = k by omega, List.getElem?_map, List.getElem?_eq_getElem h, int_getD _ _ h]; rfl
  · rw [if_neg (by omega), if_neg h, show off + 1 + k = off + (k + 1) by omega, hnum (k + 1) (by omega), app_at, if_neg (by omega), show k + 1 - A.length = (k - A.length) + 1 by omega]
    simp [List.getD_eq_getElem?_getD]

/-- The cells of T moved down by one, the run cut at its end. -/
theorem rem_back {cur c2 : Array Value} {off : Nat} {A T : List Int} {p : Int}
    (hnum : ∀ i, i < (A ++ p :: T).length → cur[off + i]? = some (.int .i16 ((A ++ p :: T).getD i 0)))
    (hc2 : ∀ k, c2[k]? = if off + A.length ≤ k ∧ k < off + A.length + (T.map (Value.int .i16)).length then (T.map (Value.int .i16))[k - (off + A.length)]? else cur[k]?) (v : Value) :
    ∀ k, k < (A ++ T).length → (c2.setIfInBounds (off + (A.length + T.length)) v)[off + k]? = some (.int .i16 ((A ++ T).getD k 0)) := by
  intro k hk
  have hl : (A ++ T).length = A.length + T.length := by simp
  have hl2 := mid_len A T p
  rw [Array.getElem?_setIfInBounds, if_neg (by omega), hc2, List.length_map, app_at]
  by_cases h : k < A.length
  · rw [if_neg (by omega), if_pos h, hnum k (by omega), app_at, if_pos h]
  · have h3 : k - A.length < T.length := by omega
    rw [if_pos (by omega), if_neg h, show off + k - (off + A.length) = k - A.length by omega, List.getElem?_map, List.getElem?_eq_getElem h3, int_getD _ _ h3]; rfl

/-- The run's block written, its header stored anew: the list behind it. -/
theorem rem_end {w3 w5 : World} {bl br rc bc off cp off' cp' : Nat} {rcur cur c3 : Array Value} {nv : Value} {xs ys : List Int}
    (H : LFull w3 bl br rc rcur bc off cp cur nv xs)
    (h5 : w5.heap[bc]? = some (.cells c3 28 (0, 0))) (hg : w3.grownBy w5 (some bc)) (hfit : off' + cp' ≤ c3.size) (hcap : ys.length ≤ cp') (hcm : cp' ≤ maxLen)
    (hnum : ∀ k, k < ys.length → c3[off' + k]? = some (.int .i16 (ys.getD k 0))) :
    w5.heap[bl]? = some (.cells #[.int .i64 0, .slice (some ⟨br, 0, none⟩) 1 rc, nv] 33 (0, 0)) ∧ w5.heap[br]? = some (.cells rcur 26 (0, 0)) ∧
    LFull (w5.setCell ⟨br, 0, none⟩ (.slice (some ⟨bc, off', none⟩) ys.length cp')) bl br rc (rcur.setIfInBounds 0 (.slice (some ⟨bc, off', none⟩) ys.length cp')) bc off' cp' c3 nv ys ∧
    Below bl w3 (w5.setCell ⟨br, 0, none⟩ (.slice (some ⟨bc, off', none⟩) ys.length cp')) := by
  have hb := H.hbc
  have hb2 := H.hbr
  have hne := H.ne
  have hl := lt_of_block H.lb
  have m1 : w5.heap[bl]? = _ := blk_grown H.lb hg (by simp; omega)
  have m2 : w5.heap[br]? = _ := blk_grown H.rb hg (by simp; omega)
  have hr0 : 0 < rcur.size := by
    rcases Nat.eq_zero_or_pos rcur.size with h | h
    · have := H.r0; rw [Array.getElem?_eq_none (by omega)] at this; cases this
    · exact h
  refine ⟨m1, m2, ⟨blk_set_other m1 _ _ (by show bl ≠ br; omega), blk_set m2 0 _, ?_, by simpa using H.rs, H.rm, hb2, blk_set_other h5 _ _ (by show bc ≠ br; exact hne), hb, hfit, hcap, hcm, hnum⟩, ?_⟩
  · rw [Array.getElem?_setIfInBounds]; simp [hr0]
  · exact (below_grown hg hb hl).setCell (p := ⟨br, 0, none⟩) (by show bl ≤ br; omega) _
end Go.Proofs.Ybulkcbhe
