import Derived.Test.YbulkcbhePartsD
import Derived.Test.YbulkcbheWalkG
import Derived.Deep.CutRange
import Derived.Deep.CutBlock
namespace Go.Proofs.Ybulkcbhe
open Go.RowKit Go.Sort
set_option linter.unusedVariables false
theorem grownBy_trans {a b c : World} {row : Option Nat} (h : a.grownBy b row) (k : b.grownBy c row) : a.grownBy c row :=
  ⟨k.os.trans h.os, k.tape.trans h.tape, k.output.trans h.output, Nat.le_trans h.size k.size, fun i hi hn => (k.block i (Nat.lt_of_lt_of_le hi h.size) hn).trans (h.block i hi hn)⟩
theorem grownBy_undrew {a b : World} {row : Option Nat} (h : a.drew.grownBy b row) : a.grownBy b row := ⟨h.os, h.tape, h.output, h.size, h.block⟩
theorem wrapR_fits (n : Int) (h1 : -100000 ≤ n) (h2 : n ≤ 100000) : IntKind.i64.wrap n = n := by
  unfold IntKind.wrap; simp [IntKind.bits, IntKind.signed]; omega
theorem map_len (A : List Int) : (A.map (Value.int .i16)).length = A.length := List.length_map ..
theorem map_one (A : List Int) : ∀ v ∈ A.map (Value.int .i16), v.oneCell' = true := by
  intro v hv; rw [List.mem_map] at hv; obtain ⟨x, _, rfl⟩ := hv; rfl
theorem map_src {cur : Array Value} {off : Nat} {xs : List Int} (hnum : ∀ i, i < xs.length → cur[off + i]? = some (.int .i16 (xs.getD i 0))) (B : List Int) (s : Nat) (hs : s + B.length ≤ xs.length) (he : ∀ j, j < B.length → xs.getD (s + j) 0 = B.getD j 0) :
    ∀ j v, (B.map (Value.int .i16))[j]? = some v → cur[off + s + j]? = some v := by
  intro j v hv
  have hj : j < B.length := by
    rcases Nat.lt_or_ge j B.length with h | h
    · exact h
    · rw [List.getElem?_eq_none (by simpa using h)] at hv; cases hv
  rw [Nat.add_assoc, hnum (s + j) (by omega), he j hj, int_getD _ _ hj]
  rw [List.getElem?_map, List.getElem?_eq_getElem hj] at hv
  exact hv
theorem sizeR28 : (Yba.prog.info? 28).map (·.size) = some 1 := by kernel_rfl

set_option maxHeartbeats 1600000 in
set_option maxRecDepth 100000 in
theorem remove_any (p : Int) (A T : List Int) (bl br rc bc off cp : Nat) (rcur cur : Array Value) (w : World) (xs ys : List Int) (hxs : xs = A ++ p :: T) (hys : ys = A ++ T)
    (h : LFull w bl br rc rcur bc off cp cur (.int .i64 xs.length) xs) (hlen : xs.length ≤ 256) (hasc : ∀ i j, i ≤ j → j < xs.length → xs.getD i 0 ≤ xs.getD j 0)
    (hA : ∀ a ∈ A, a < p) (hT : ∀ a ∈ T, p < a) :
    Calls Yba.prog 7 #[.pointer (some ⟨bl, 0, none⟩), .int .i16 p] w fun e w' => e = .returned (.tuple #[]) ∧ LInv w' bl (.int .i64 ys.length) ys ∧ Below bl w w' := by
  have hlx : xs.length = A.length + T.length + 1 := by rw [hxs]; exact mid_len A T p
  obtain ⟨n, hn⟩ : ∃ n, n = A.length + T.length := ⟨_, rfl⟩
  have hyl : ys.length = n := by rw [hys, hn]; simp
  rw [← hn] at hlx
  obtain ⟨i, hi⟩ : ∃ i, i = A.length := ⟨_, rfl⟩
  have hin : i ≤ n := by omega
  have HX : Hid (xs = A ++ p :: T) := hxs
  have HY : Hid (ys = A ++ T) := hys
  have HN : Hid (n = A.length + T.length) := hn
  have HI : Hid (i = A.length) := hi
  have HLX : Hid (xs.length = n + 1) := hlx
  have HYL : Hid (ys.length = n) := hyl
  have H : Hid _ := h
  have HA : Hid (∀ i j, i ≤ j → j < xs.length → xs.getD i 0 ≤ xs.getD j 0) := hasc
  have HL : Hid _ := hA
  have HT : Hid _ := hT
  rw [hlx] at hlen
  clear h hasc hA hT hxs hys hn hi hlx hyl
  go_enter Yba.func7, Yba.ntmps7
  go_wp2_with fail
  refine (place_any p bl br 0 (some ⟨br, 0, none⟩) rc 1 (runX bc off cp xs) _ (H.out.runs (by rw [HLX.out]; omega) (by rw [HLX.out]; omega)) (runX_asc bc off cp xs HA.out)).mono ?_
  rintro e w1 ⟨run, i', rfl, hf, hq⟩
  obtain ⟨rfl, hi'⟩ : run = 0 ∧ i' = i := by rw [HX.out] at hf; have := found_rem HL.out HT.out hf; rw [HI.out]; exact this
  subst hi'
  have H1 : Hid _ := H.out.qt hq
  have HB1 : Hid (Below bl w w1) := hq.below.mono (by have := lt_of_block H.out.lb; omega)
  clear hf hq
  have c1 := blk_cell H1.out.lb 1
  have c2 := blk_cell H1.out.lb 2
  have f2 := blk_free H1.out.lb 2
  have d0 := blk_cell H1.out.rb 0
  rw [H1.out.r0, HLX.out] at d0
  have e0 := H1.out.num i' (by rw [HLX.out]; omega)
  rw [← blk_cell H1.out.cb] at e0
  have ep : xs.getD i' 0 = p := by rw [HX.out, HI.out]; exact mid_at A T p
  rw [ep] at e0
  simp only [List.getElem?_toArray, List.getElem?_cons_succ, List.getElem?_cons_zero] at c1 c2
  rw [HLX.out] at c2
  clear ep
  have hiz : (i' : Int) < (n : Int) + 1 := by omega
  go_upto_region 4 with fail
  obtain ⟨W2, hW2⟩ : ∃ W2, W2 = w1.setCell ⟨bl, 2, none⟩ (Value.int IntKind.i64 (n : Int)) := ⟨_, rfl⟩
  have H2 : Hid (LFull W2 bl br rc rcur bc off cp cur (.int .i64 (n : Int)) xs) := by rw [hW2]; exact H1.out.setN _
  have HB2 : Hid (Below bl w W2) := by rw [hW2]; exact HB1.out.setCell (p := ⟨bl, 2, none⟩) (Nat.le_refl bl) _
  rw [← hW2]
  clear hW2 c1 c2 d0 e0 f2 H1 HB1
  have c1 := blk_cell H2.out.lb 1
  have d0 := blk_cell H2.out.rb 0
  rw [H2.out.r0, HLX.out] at d0
  simp only [List.getElem?_toArray, List.getElem?_cons_succ, List.getElem?_cons_zero] at c1
  have hcapn := H2.out.cap
  rw [HLX.out] at hcapn
  have hbl2 : bl < W2.heap.size := lt_of_block H2.out.lb
  go_upto_if 55 with fail
  go_cut [7] from 9 (fun s7 wx => ∃ (off' cp' : Nat) (c3 : Array Value), s7 = .slice (some ⟨bc, off', none⟩) n cp' ∧ Hid (wx.heap[bc]? = some (.cells c3 28 (0, 0)) ∧ W2.grownBy wx (some bc) ∧ off' + cp' ≤ c3.size ∧ ys.length ≤ cp' ∧ cp' ≤ maxLen ∧ ∀ k, k < ys.length → c3[off' + k]? = some (.int .i16 (ys.getD k 0))))
  case first =>
    obtain ⟨m, hm⟩ : ∃ m, m = i' + 1 := ⟨_, rfl⟩
    have hwm : IntKind.i64.wrap ((i' : Int) + 1) = (m : Int) := by rw [wrapR_fits _ (by omega) (by omega)]; omega
    have hm1 : 1 ≤ m := by omega
    have hmz1 : (1 : Int) ≤ (m : Int) := by omega
    have hmn : m ≤ n + 1 := by omega
    have hmnz : (m : Int) ≤ (n : Int) + 1 := by omega
    have hmc : m ≤ cp := by omega
    have hmcz : (m : Int) ≤ (cp : Int) := by omega
    have hm0 : (0 : Int) ≤ (m : Int) := by omega
    have hic : i' ≤ cp := by omega
    have hicz : (i' : Int) ≤ (cp : Int) := by omega
    have hin1 : i' ≤ n + 1 := by omega
    have hin1z : (i' : Int) ≤ (n : Int) + 1 := by omega
    have HM : Hid (m = i' + 1) := hm
    clear hm
    by_cases hfr : (i' : Int) < ((n : Int) + 1) / 2
    · have hcp1 : ¬ cp = 1 := by omega
      have hnA : Hid (A.length = i') := HI.out.symm
      have hcn : Hid ((A.map (Value.int .i16)).length = Nat.min i' (m - 1)) := by
        have h1 := hnA.out; have h2 := HM.out
        show _ = min _ _; rw [map_len]; omega
      have hfit : Hid (off + 1 + (A.map (Value.int .i16)).length ≤ cur.size) := by
        have h1 := hnA.out; have h2 := H2.out.fit
        show _ ≤ _; rw [map_len]; omega
      have hsrc : Hid (∀ j v, (A.map (Value.int .i16))[j]? = some v → cur[off + j]? = some v) := by
        have h1 := map_src H2.out.num A 0 (by have h1 := hnA.out; have h2 := HLX.out; omega) (fun j hj => by rw [HX.out, Nat.zero_add, app_at, if_pos hj])
        exact fun j v hv => by have h2 := h1 j v hv; rwa [Nat.add_zero] at h2
      go_upto_region 7 with fail
      go_cut [] from 9 (fun wx => ∃ c2 : Array Value, Hid (wx.heap[bc]? = some (.cells c2 28 (0, 0)) ∧ c2.size = cur.size ∧ (∀ k, c2[k]? = if off + 1 ≤ k ∧ k < off + 1 + (A.map (Value.int .i16)).length then (A.map (Value.int .i16))[k - (off + 1)]? else cur[k]?) ∧ W2.drew.grownBy wx (some bc)))
      case first =>
        go_region_law (refine step_copy_run rfl (.tmp 59) (.tmp 62) 26 rfl 28 Yba.underlying26 sizeR28 (some ⟨bc, off + 1, none⟩) (some ⟨bc, off, none⟩) (m - 1) (cp - 1) i' cp (by simp [Act.eval, Act.put]) (by simp [Act.eval, Act.put]) bc (off + 1) off cur 28 H2.out.cb (A.map (Value.int .i16)) hcn.out (fun _ => ⟨rfl, rfl⟩) hsrc.out hfit.out (map_one A) ?_; intro w5 c2 HC5)
        go_wp2_with fail
        go_meet
        case rel => exact ⟨c2, HC5.out⟩
      case rest =>
        obtain ⟨c2, HC5⟩ := hcut
        have hsz2 : off < c2.size := by rw [HC5.out.2.1]; have := H2.out.fit; omega
        obtain ⟨v5, hv5⟩ : ∃ v, c2[off]? = some v := ⟨_, Array.getElem?_eq_getElem hsz2⟩
        have q4 := blk_cell HC5.out.1 off
        have q5 := blk_free HC5.out.1 off
        rw [hv5] at q4
        have HF : Hid ((wc.setCell ⟨bc, off, none⟩ (.int .i16 0)).heap[bc]? = some (.cells (c2.setIfInBounds off (.int .i16 0)) 28 (0, 0)) ∧ W2.grownBy (wc.setCell ⟨bc, off, none⟩ (.int .i16 0)) (some bc) ∧ off + 1 + (cp - 1) ≤ (c2.setIfInBounds off (.int .i16 0)).size ∧ ys.length ≤ cp - 1 ∧ cp - 1 ≤ maxLen ∧ ∀ k, k < ys.length → (c2.setIfInBounds off (.int .i16 0))[off + 1 + k]? = some (.int .i16 (ys.getD k 0))) := by
          refine ⟨blk_set HC5.out.1 _ _, grownBy_trans (grownBy_undrew HC5.out.2.2.2) (grownBy_setCell _ _ _), ?_, ?_, ?_, ?_⟩
          · rw [Array.size_setIfInBounds, HC5.out.2.1]; have := H2.out.fit; omega
          · rw [HYL.out]; omega
          · have := H2.out.cm; omega
          · have h1 := H2.out.num
            rw [HX.out] at h1
            rw [HY.out]
            exact rem_front h1 HC5.out.2.2.1 _
        clear hcn hfit hsrc hnA hsz2 hv5 HC5
        go_wp2
        go_meet
        case rel => exact ⟨off + 1, cp - 1, _, rfl, HF.out⟩
    · have hcpi : ¬ cp = i' := by omega
      have hnA : Hid (A.length = i') := HI.out.symm
      have hnT : Hid (T.length = n - i') := by have h1 := HN.out; have h2 := HI.out; show _ = _; omega
      have hcn : Hid ((T.map (Value.int .i16)).length = Nat.min (n + 1 - m) (n + 1 - i')) := by
        have h1 := hnT.out; have h2 := HM.out
        show _ = min _ _; rw [map_len]; omega
      have hfit : Hid (off + i' + (T.map (Value.int .i16)).length ≤ cur.size) := by
        have h1 := hnT.out; have h2 := H2.out.fit
        show _ ≤ _; rw [map_len]; omega
      have hsrc : Hid (∀ j v, (T.map (Value.int .i16))[j]? = some v → cur[off + m + j]? = some v) := by
        exact map_src H2.out.num T m (by have h1 := hnT.out; have h2 := HLX.out; have h3 := HM.out; omega) (fun j hj => by
          have h3 := HM.out; have h4 := hnA.out
          rw [HX.out, app_at, if_neg (by omega), show m + j - A.length = j + 1 by omega]; simp [List.getD_eq_getElem?_getD])
      have hpos : Hid (0 < (T.map (Value.int .i16)).length → (some (⟨bc, off + i', none⟩ : Addr)) = some ⟨bc, off + i', none⟩ ∧ (if cp = m then some (⟨bc, off, none⟩ : Addr) else some ⟨bc, off + m, none⟩) = some ⟨bc, off + m, none⟩) := by
        intro h
        have h1 := hnT.out; have h2 := HM.out
        rw [map_len] at h
        rw [if_neg (by omega)]
        exact ⟨rfl, rfl⟩
      go_upto_region 10 with fail
      go_cut [] from 9 (fun wx => ∃ c2 : Array Value, Hid (wx.heap[bc]? = some (.cells c2 28 (0, 0)) ∧ c2.size = cur.size ∧ (∀ k, c2[k]? = if off + i' ≤ k ∧ k < off + i' + (T.map (Value.int .i16)).length then (T.map (Value.int .i16))[k - (off + i')]? else cur[k]?) ∧ W2.drew.grownBy wx (some bc)))
      case first =>
        go_region_law (refine step_copy_run rfl (.tmp 71) (.tmp 75) 26 rfl 28 Yba.underlying26 sizeR28 (some ⟨bc, off + i', none⟩) (if cp = m then some (⟨bc, off, none⟩ : Addr) else some ⟨bc, off + m, none⟩) (n + 1 - i') (cp - i') (n + 1 - m) (cp - m) (by simp [Act.eval, Act.put]) (by simp [Act.eval, Act.put]) bc (off + i') (off + m) cur 28 H2.out.cb (T.map (Value.int .i16)) hcn.out hpos.out hsrc.out hfit.out (map_one T) ?_; intro w5 c2 HC5)
        generalize (if cp = m then some (⟨bc, off, none⟩ : Addr) else some ⟨bc, off + m, none⟩) = dpv
        go_wp2_with fail
        go_meet
        case rel => exact ⟨c2, HC5.out⟩
      case rest =>
        obtain ⟨c2, HC5⟩ := hcut
        have hsz2 : off + n < c2.size := by rw [HC5.out.2.1]; have := H2.out.fit; omega
        obtain ⟨v5, hv5⟩ : ∃ v, c2[off + n]? = some v := ⟨_, Array.getElem?_eq_getElem hsz2⟩
        have q4 := blk_cell HC5.out.1 (off + n)
        have q5 := blk_free HC5.out.1 (off + n)
        rw [hv5] at q4
        have HF : Hid ((wc.setCell ⟨bc, off + n, none⟩ (.int .i16 0)).heap[bc]? = some (.cells (c2.setIfInBounds (off + n) (.int .i16 0)) 28 (0, 0)) ∧ W2.grownBy (wc.setCell ⟨bc, off + n, none⟩ (.int .i16 0)) (some bc) ∧ off + cp ≤ (c2.setIfInBounds (off + n) (.int .i16 0)).size ∧ ys.length ≤ cp ∧ cp ≤ maxLen ∧ ∀ k, k < ys.length → (c2.setIfInBounds (off + n) (.int .i16 0))[off + k]? = some (.int .i16 (ys.getD k 0))) := by
          refine ⟨blk_set HC5.out.1 _ _, grownBy_trans (grownBy_undrew HC5.out.2.2.2) (grownBy_setCell _ _ _), ?_, ?_, ?_, ?_⟩
          · rw [Array.size_setIfInBounds, HC5.out.2.1]; have := H2.out.fit; omega
          · rw [HYL.out]; omega
          · have := H2.out.cm; omega
          · have h1 := H2.out.num
            rw [HX.out] at h1
            have h2 := HC5.out.2.2.1
            rw [HI.out] at h2
            rw [HY.out, HN.out]
            exact rem_back h1 h2 _
        clear hcn hfit hsrc hnA hnT hpos hsz2 hv5 HC5
        go_wp2
        go_meet
        case rel => exact ⟨off, cp, _, rfl, HF.out⟩
  case rest =>
    obtain ⟨off', cp', c3, rfl, HF⟩ := hcut
    have hR := rem_end (ys := ys) H2.out HF.out.1 HF.out.2.1 HF.out.2.2.1 HF.out.2.2.2.1 HF.out.2.2.2.2.1 HF.out.2.2.2.2.2
    rw [HYL.out] at hR
    have q1 := blk_cell hR.1 1
    have q2 := blk_cell hR.2.1 0
    have q3 := blk_free hR.2.1 0
    rw [H2.out.r0] at q2
    simp only [List.getElem?_toArray, List.getElem?_cons_succ, List.getElem?_cons_zero] at q1
    have HR : Hid _ := hR.2.2
    have hbr := H2.out.hbr
    clear hR c1 d0 hcapn hbl2
    go_upto_region 14 with fail
    obtain ⟨W6, hW6⟩ : ∃ W6, W6 = wc.setCell ⟨br, 0, none⟩ (.slice (some ⟨bc, off', none⟩) n cp') := ⟨_, rfl⟩
    rw [← hW6] at HR ⊢
    clear hW6 q1 q2 q3
    have c1 := blk_cell HR.out.1.lb 1
    simp only [List.getElem?_toArray, List.getElem?_cons_succ, List.getElem?_cons_zero] at c1
    have HB6 : Hid (Below bl w W6) := HB2.out.trans HR.out.2
    rcases Nat.eq_zero_or_pos n with hn0 | hn0
    · subst hn0
      go_wp2_with fail
      refine (drop_any bl br rc bc off' cp' _ c3 _ ys W6 HR.out.1).mono ?_
      rintro e w7 ⟨rfl, hE, hB7⟩
      have HE : Hid _ := hE
      have HB7 : Hid _ := hB7
      clear hE hB7
      go_wp2_with fail
      go_end0
      have e0 : ys = [] := List.eq_nil_of_length_eq_zero HYL.out
      exact ⟨rfl, .inl ⟨e0, by rw [HYL.out]; exact HE.out⟩, HB6.out.trans HB7.out⟩
    · have hnb : ((n : Int) == 0) = false := by rw [beq_eq_false_iff_ne]; omega
      have hnz : (0 : Int) < (n : Int) := by omega
      by_cases h128 : (n : Int) < 128
      all_goals
        go_wp2_with fail
        go_end0
        exact ⟨rfl, .inr ⟨fun h => by have h2 := HYL.out; rw [h] at h2; simp at h2; omega, ⟨_, _, _, _, _, _, _, by rw [HYL.out]; exact HR.out.1⟩⟩, HB6.out⟩
end Go.Proofs.Ybulkcbhe
