import Derived.Test.YbulkcbigOwnC
namespace Go.Proofs.Ybulkcbig
open Go.RowKit
set_option linter.unusedVariables false

theorem grownBy_setRow (w : World) (g : Nat) (cs : Array Value) : w.grownBy (w.setRow g cs) (some g) :=
  ⟨rfl, rfl, rfl, by simp [World.setRow], fun k _ hk => setRow_other w g k _ (fun e => hk (by simp [e]))⟩

theorem cut16 (ss : List Int) (a : Nat) (h : a + 16 ≤ ss.length) : cut ss a (a + 16) = [ss.getD (a + 0) 0, ss.getD (a + 1) 0, ss.getD (a + 2) 0, ss.getD (a + 3) 0, ss.getD (a + 4) 0, ss.getD (a + 5) 0, ss.getD (a + 6) 0, ss.getD (a + 7) 0, ss.getD (a + 8) 0, ss.getD (a + 9) 0, ss.getD (a + 10) 0, ss.getD (a + 11) 0, ss.getD (a + 12) 0, ss.getD (a + 13) 0, ss.getD (a + 14) 0, ss.getD (a + 15) 0] := by
  apply List.ext_getElem?
  intro j
  rcases Nat.lt_or_ge j 16 with hj | hj
  · rw [cut_get ss a (a + 16) j (by omega) h]
    match j, hj with
    | 0, _ => rfl
    | 1, _ => rfl
    | 2, _ => rfl
    | 3, _ => rfl
    | 4, _ => rfl
    | 5, _ => rfl
    | 6, _ => rfl
    | 7, _ => rfl
    | 8, _ => rfl
    | 9, _ => rfl
    | 10, _ => rfl
    | 11, _ => rfl
    | 12, _ => rfl
    | 13, _ => rfl
    | 14, _ => rfl
    | 15, _ => rfl
    | n + 16, h16 => exact absurd h16 (by omega)
  · rw [List.getElem?_eq_none (by rw [cut_len ss a (a + 16) (by omega) h]; omega), List.getElem?_eq_none (by simpa using hj)]

theorem cut_take (ss : List Int) (a b c : Nat) (h : b ≤ c) : (cut ss a c).take (b - a) = cut ss a b := by
  simp only [cut, List.take_take]
  congr 1
  omega

set_option maxRecDepth 100000 in
set_option maxHeartbeats 800000 in
theorem apb_quick (B g cap gs cp a b : Nat) (xs ss : List Int) (w : World) (hown : Own B w (.slice (some ⟨g, 0, none⟩) xs.length cap) xs) (hB : B ≤ w.heap.size) (hs : Src w gs cp ss)
    (hab : a < b) (hb : b ≤ ss.length) (h16 : b ≤ a + 16) (hs16 : a + 16 ≤ ss.length) (hd16 : xs.length + 16 ≤ cap) :
    Calls Yba.prog 21 #[.slice (some ⟨g, 0, none⟩) xs.length cap, .slice (some ⟨gs, 0, none⟩) ss.length cp, .int .i64 a, .int .i64 b] w fun e w' => ∃ v', e = .returned v' ∧ Own B w' v' (xs ++ cut ss a b) ∧ Below B w w' := by
  rcases hown.2 with ⟨h, _⟩ | ⟨g', cap', cur, hv, hbg, hg, hnc, hcm, hsz, htk⟩
  · cases h
  · simp only [Value.slice.injEq, Option.some.injEq, Addr.mk.injEq, and_true, true_and] at hv
    obtain ⟨rfl, rfl⟩ := hv
    rw [Nat.mul_one] at hsz htk
    have hc : ∀ i, i < 16 → w.cell? ⟨g, xs.length + i, none⟩ = some (cur.getD (xs.length + i) undef) := by
      intro i hi
      have : xs.length + i < cur.size := by omega
      rw [cell_of_row w g _ cur 5 (0, 0) hg, Array.getElem?_eq_getElem this]
      congr 1
      exact (Array.getElem_eq_getD undef)
    have hl : ∀ i, i < 16 → w.cell? ⟨gs, a + i, none⟩ = some (.int .u8 (ss.getD (a + i) 0)) := fun i hi => hs.cell (a + i) (by omega)
    refine (apb_fast g cap gs cp xs.length ss.length a b w hcm hs.cap hs.lim hab hb h16 hs16 hd16 _ _ _ _ _ _ _ _ _ _ _ _ _ _ _ _ _ _ _ _ _ _ _ _ _ _ _ _ _ _ _ _
      (hl 0 (by omega)) (hc 0 (by omega)) (hl 1 (by omega)) (hc 1 (by omega)) (hl 2 (by omega)) (hc 2 (by omega)) (hl 3 (by omega)) (hc 3 (by omega)) (hl 4 (by omega)) (hc 4 (by omega)) (hl 5 (by omega)) (hc 5 (by omega)) (hl 6 (by omega)) (hc 6 (by omega)) (hl 7 (by omega)) (hc 7 (by omega)) (hl 8 (by omega)) (hc 8 (by omega)) (hl 9 (by omega)) (hc 9 (by omega)) (hl 10 (by omega)) (hc 10 (by omega)) (hl 11 (by omega)) (hc 11 (by omega)) (hl 12 (by omega)) (hc 12 (by omega)) (hl 13 (by omega)) (hc 13 (by omega)) (hl 14 (by omega)) (hc 14 (by omega)) (hl 15 (by omega)) (hc 15 (by omega))
      (fun o => frozen_of_row w g o cur 5 hg)).mono ?_
    rintro e w' ⟨rfl, hw'⟩
    have hlist : (cut ss a (a + 16)).map (Value.int .u8) = [.int .u8 (ss.getD (a + 0) 0), .int .u8 (ss.getD (a + 1) 0), .int .u8 (ss.getD (a + 2) 0), .int .u8 (ss.getD (a + 3) 0), .int .u8 (ss.getD (a + 4) 0), .int .u8 (ss.getD (a + 5) 0), .int .u8 (ss.getD (a + 6) 0), .int .u8 (ss.getD (a + 7) 0), .int .u8 (ss.getD (a + 8) 0), .int .u8 (ss.getD (a + 9) 0), .int .u8 (ss.getD (a + 10) 0), .int .u8 (ss.getD (a + 11) 0), .int .u8 (ss.getD (a + 12) 0), .int .u8 (ss.getD (a + 13) 0), .int .u8 (ss.getD (a + 14) 0), .int .u8 (ss.getD (a + 15) 0)] := by rw [cut16 ss a hs16]; rfl
    have hput := put16 w g xs.length ((cut ss a (a + 16)).map (Value.int .u8)) (by rw [List.length_map, cut_len ss a (a + 16) (by omega) hs16]; omega) (fun v hv => by
      obtain ⟨x, _, rfl⟩ := List.mem_map.1 hv; rfl) cur hg (by omega)
    have hw2 := hw'.trans (congrArg World.drew ((congrArg (fun L => w.setCells g xs.length L) hlist.symm).trans hput))
    clear hw' hput hc hl hlist
    subst hw2
    refine ⟨_, rfl, ?_, ?_⟩
    · show (World.setRow w g _).ownsRow B 5 1 _ _ _
      refine ⟨by simp, .inr ⟨g, cap, _, ?_, hbg, setRow_heap w g cur _ 5 _ hg, ?_, hcm, ?_, ?_⟩⟩
      · rw [List.length_append, cut_len ss a b (by omega) hb]
      · rw [List.length_append, cut_len ss a b (by omega) hb]; omega
      · simp [cut_len ss a (a + 16) (by omega) hs16]; omega
      · rw [List.length_append, cut_len ss a b (by omega) hb, Nat.mul_one, htk, List.map_append]
        have e1 : (xs.map (Value.int .u8) ++ (cut ss a (a + 16)).map (Value.int .u8) ++ cur.toList.drop (xs.length + 16)).take (xs.length + (b - a)) = xs.map (Value.int .u8) ++ ((cut ss a (a + 16)).map (Value.int .u8)).take (b - a) := by
          rw [List.append_assoc, List.take_append, List.length_map, Nat.add_sub_cancel_left, List.take_of_length_le (by simp), List.take_append_of_le_length (by rw [List.length_map, cut_len ss a (a + 16) (by omega) hs16]; omega)]
        rw [List.toList_toArray, e1, ← List.map_take, cut_take ss a b (a + 16) h16]
    · exact ((Below.refl B w).grown (grownBy_setRow w g _) hB (fun q hq => by cases hq; exact hbg)).drew
end Go.Proofs.Ybulkcbig
