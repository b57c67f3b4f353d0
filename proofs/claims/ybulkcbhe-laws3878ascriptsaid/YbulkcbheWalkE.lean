import Derived.Test.YbulkcbhePartsC
import Derived.Deep.CutRange
import Derived.Deep.CutBlock
namespace Go.Proofs.Ybulkcbhe
open Go.RowKit Go.Sort
set_option linter.unusedVariables false

theorem infoE28 : (Yba.prog.info? 28).map (fun i => (i.zero, i.size, i.bytes)) = some (some (.int .i16 0), 1, 2) := by kernel_rfl
theorem sizeE28 : (Yba.prog.info? 28).map (·.size) = some 1 := by kernel_rfl
theorem wrap64_fits (n : Int) (h1 : -100000 ≤ n) (h2 : n ≤ 100000) : IntKind.i64.wrap n = n := by
  unfold IntKind.wrap; simp [IntKind.bits, IntKind.signed]; omega
theorem last_nil {A T xs : List Int} {n : Nat} {z p : Int} (hx : xs = A ++ T) (hn : xs.length = n + 1) (hz : z = xs.getD n 0) (hzp : z < p) (hT : ∀ a ∈ T, p < a) : T = [] := by
  rcases List.eq_nil_or_concat T with h | ⟨T', t, h⟩
  · exact h
  · exfalso
    have ht := hT t (by rw [h]; simp)
    have hx2 : xs = (A ++ T') ++ [t] := by rw [hx, h]; simp
    have hl : n = (A ++ T').length := by rw [hx2, List.length_append] at hn; simp only [List.length_cons, List.length_nil] at hn; omega
    have : xs.getD n 0 = t := by rw [hx2, hl]; simp [List.getD_eq_getElem?_getD]
    omega

theorem found_ins {A T xs : List Int} {n : Nat} {z p : Int} {bc off cp run i : Nat} (hx : xs = A ++ T) (hn : xs.length = n + 1) (hz : z = xs.getD n 0) (hzp : ¬ z < p) (hA : ∀ a ∈ A, a < p) (hT : ∀ a ∈ T, p < a)
    (hf : FoundAt 1 (runX bc off cp xs) p run i) : run = 0 ∧ i = A.length ∧ A.length < xs.length := by
  obtain ⟨h1, h2, h3, h4⟩ := hf
  have hr : run = 0 := by
    rcases Nat.eq_zero_or_pos run with h | h
    · exact h
    · have := h2 0 h
      have e : (runX bc off cp xs 0).x ((runX bc off cp xs 0).len - 1) = xs.getD n 0 := by
        show xs.getD (xs.length - 1) 0 = _
        rw [hn]; rfl
      omega
  subst hr
  obtain ⟨k1, k2, k3⟩ := h3 (by omega)
  have k1' : i < xs.length := k1
  have k3' : p ≤ xs.getD i 0 := k3
  have hi1 : A.length ≤ i := by
    rcases Nat.lt_or_ge i A.length with h | h
    · have : xs.getD i 0 ∈ A := by
        rw [int_getD _ _ k1']; subst hx; rw [List.getElem_append_left h]; exact List.getElem_mem h
      have := hA _ this
      omega
    · exact h
  have hi2 : i ≤ A.length := by
    rcases Nat.lt_or_ge A.length i with h | h
    · have h5 : xs.getD A.length 0 < p := k2 A.length h
      have : xs.getD A.length 0 ∈ T := by
        rw [int_getD _ _ (by omega)]; subst hx; rw [List.getElem_append_right (Nat.le_refl _)]; exact List.getElem_mem _
      have := hT _ this
      omega
    · exact h
  exact ⟨rfl, by omega, by omega⟩

set_option maxHeartbeats 800000 in
set_option maxRecDepth 100000 in
theorem add_full (p : Int) (A T : List Int) (bl br rc bc off cp : Nat) (rcur cur : Array Value) (w : World) (h : LFull w bl br rc rcur bc off cp cur (.int .i64 (A ++ T).length) (A ++ T))
    (hne : 0 < (A ++ T).length) (hlen : (A ++ T).length ≤ 255) (hasc : ∀ i j, i ≤ j → j < (A ++ T).length → (A ++ T).getD i 0 ≤ (A ++ T).getD j 0)
    (hA : ∀ a ∈ A, a < p) (hT : ∀ a ∈ T, p < a) (ys : List Int) (hys : ys = A ++ p :: T) :
    Calls Yba.prog 6 #[.pointer (some ⟨bl, 0, none⟩), .int .i16 p] w fun e w' => e = .returned (.tuple #[]) ∧ LInv w' bl (.int .i64 ys.length) ys ∧ Below bl w w' := by
  have HY : Hid (ys = A ++ p :: T) := hys
  clear hys
  obtain ⟨xs, hxs⟩ : ∃ xs, xs = A ++ T := ⟨_, rfl⟩
  rw [← hxs] at h hne hlen hasc
  obtain ⟨n, hn⟩ : ∃ n, xs.length = n + 1 := ⟨xs.length - 1, by omega⟩
  have HX : Hid (xs = A ++ T) := hxs
  have HN : Hid (xs.length = n + 1) := hn
  have H : Hid _ := h
  have HA : Hid _ := hasc
  have HL : Hid _ := hA
  have HT : Hid _ := hT
  have c1 := blk_cell h.lb 1
  have c2 := blk_cell h.lb 2
  have c0 := blk_cell h.lb 0
  have f2 := blk_free h.lb 2
  have d0 := blk_cell h.rb 0
  rw [h.r0] at d0
  have e0 := h.num n (by omega)
  rw [← blk_cell h.cb] at e0
  have hbr := h.hbr
  have hbc := h.hbc
  simp only [List.getElem?_toArray, List.getElem?_cons_succ, List.getElem?_cons_zero] at c0 c1 c2
  rw [hn] at c2 d0 hlen
  obtain ⟨z, hz⟩ : ∃ z, z = xs.getD n 0 := ⟨_, rfl⟩
  rw [← hz] at e0
  have HZ : Hid (z = xs.getD n 0) := hz
  have hm := fun w => meth28 z w
  simp only [sl, String.reduceAppend, String.reduceOfList] at hm
  clear h hasc hA hT hxs hz hn
  have n1 : ¬ br = bl := by omega
  have n2 : ¬ bc = bl := by omega
  go_enter Yba.func6, Yba.ntmps6
  go_upto_region 3 with fail
  obtain ⟨W1, hW1⟩ : ∃ W1, W1 = w.setCell ⟨bl, 2, none⟩ (Value.int IntKind.i64 ((n : Int) + 1 + 1)) := ⟨_, rfl⟩
  have H1 : Hid (LFull W1 bl br rc rcur bc off cp cur (.int .i64 ((n : Int) + 1 + 1)) xs) := by rw [hW1]; exact H.out.setN _
  have HB1 : Hid (Below bl w W1) := by rw [hW1]; exact (Below.refl bl w).setCell (p := ⟨bl, 2, none⟩) (Nat.le_refl bl) _
  rw [← hW1]
  clear hW1 c0 c1 c2 d0 e0 f2
  have c0 := blk_cell H1.out.lb 0
  have c1 := blk_cell H1.out.lb 1
  have d0 := blk_cell H1.out.rb 0
  rw [H1.out.r0, HN.out] at d0
  have e0 := H1.out.num n (by have := HN.out; omega)
  rw [← blk_cell H1.out.cb, ← HZ.out] at e0
  simp only [List.getElem?_toArray, List.getElem?_cons_succ, List.getElem?_cons_zero] at c0 c1
  obtain ⟨bb, hbb⟩ : ∃ bb, bb = decide (z < p) := ⟨_, rfl⟩
  have HBb : Hid (bb = decide (z < p)) := hbb
  have hbf : ∀ w, Calls Yba.prog 32 #[.int .i16 z, .int .i16 p, .int .i64 0] w fun e w' => e = .returned (.bool bb) ∧ w' = w := by rw [hbb]; intro w; exact before_any _ _ _ _
  clear hbb
  go_quiet ((go_at_call 32; exact Calls.quiet_of_same (hbf _)))
  clear hbf hm
  have h512 : ((n : Int) + 1 == 512) = false := by rw [beq_eq_false_iff_ne]; omega
  go_upto_if 57 with fail
  go_cut [4, 5] from 10 (fun s4 s5 wx => Hid (Qt W1 wx ∧ ((s4 = .int .i64 1 ∧ s5 = .int .i64 0 ∧ T = []) ∨ (s4 = .int .i64 0 ∧ s5 = .int .i64 A.length ∧ A.length < xs.length))))
  case first =>
    cases bb
    rotate_left
    · have hzp : z < p := of_decide_eq_true HBb.out.symm
      go_wp2_with fail
      go_meet
      case rel => exact ⟨(Qt.refl _).drewN _, .inl ⟨rfl, rfl, last_nil HX.out HN.out HZ.out hzp HT.out⟩⟩
    · have hzp : ¬ z < p := of_decide_eq_false HBb.out.symm
      go_wp2_with fail
      refine (place_any p bl br 0 (some ⟨br, 0, none⟩) rc 1 (runX bc off cp xs) _ ((H1.out.qt ((Qt.refl _).drewN nq)).runs hne (by have := HN.out; omega)) (runX_asc bc off cp xs HA.out)).mono ?_
      rintro e w2 ⟨run, i, rfl, hf, hq⟩
      obtain ⟨rfl, rfl, hlt⟩ := found_ins HX.out HN.out HZ.out (by omega) HL.out HT.out hf
      have HQ : Hid _ := ((Qt.refl W1).drewN nq).trans hq
      clear hf hq
      go_wp2_with fail
      go_meet
      case rel => exact ⟨HQ.out, .inr ⟨rfl, rfl, hlt⟩⟩
  case rest =>
    have H2 : Hid _ := hcut.out.1
    have HC : Hid _ := hcut.out.2
    have H3 : Hid _ := H1.out.qt H2.out
    clear hcut c0 c1 d0 e0
    have c1 := blk_cell H3.out.lb 1
    have d0 := blk_cell H3.out.rb 0
    rw [H3.out.r0, HN.out] at d0
    simp only [List.getElem?_toArray, List.getElem?_cons_succ, List.getElem?_cons_zero] at c1
    go_upto_block 0 with fail
    go_cut [4, 5] from 10 (fun s4 s5 wx => s4 = .int .i64 0 ∧ s5 = .int .i64 A.length ∧ Hid (Qt wc wx))
    case first =>
      rcases HC.out with ⟨rfl, rfl, hTn⟩ | ⟨rfl, rfl, hlt⟩
      · go_upto_region 8 with fail
        go_quiet (fail)
        go_wp2_with fail
        go_meet
        case rel => exact ⟨rfl, by have h1 := HX.out; have h2 := HN.out; rw [hTn, List.append_nil] at h1; rw [← h1, h2]; go_num, (Qt.refl _).drewN _⟩
      · go_wp2_with fail
        go_meet
        case rel => exact ⟨rfl, rfl, Qt.refl _⟩
    case rest =>
      obtain ⟨rfl, rfl, H4⟩ := hcut
      have H5 : Hid _ := H3.out.qt H4.out
      obtain ⟨w3, hw3⟩ : ∃ w3, w3 = wc := ⟨wc, rfl⟩
      subst hw3
      clear c1 d0
      have c1 := blk_cell H5.out.lb 1
      have d0 := blk_cell H5.out.rb 0
      rw [H5.out.r0, HN.out] at d0
      simp only [List.getElem?_toArray, List.getElem?_cons_succ, List.getElem?_cons_zero] at c1
      have hbrl : br < w3.heap.size := lt_of_block H5.out.rb
      have hbcl : bc < w3.heap.size := lt_of_block H5.out.cb
      have hbll : bl < w3.heap.size := lt_of_block H5.out.lb
      obtain ⟨i0, hi, hz0, hz1, hz2⟩ := info_parts infoE28
      have hcapn := H5.out.cap
      rw [HN.out] at hcapn
      have hml : n + 1 + 1 ≤ maxLen := by unfold maxLen; omega
      go_upto_region 16 with (at_builtin; refine wpList_append_run _ rfl (.tmp 152) (.tmp 154) 26 rfl 28 i0 (.int .i16 0) 2 Yba.underlying26 hi hz0 hz1 hz2 rfl bc off (n + 1) cp cur rfl (blk_alloc H5.out.cb _) H5.out.fit hcapn H5.out.cm ⟨w3.heap.size, 0, none⟩ 1 (.int .i16 0) rfl (cell_one_new _ _ _) rfl hml (by omega) ?_; intro bc' off' cp' cur' w4 HA4)
      have hAT : A.length + T.length = n + 1 := by have h1 := HX.out; have h2 := HN.out; rw [h1, List.length_append] at h2; exact h2
      have H5x : Hid (LFull w3 bl br rc rcur bc off cp cur (.int .i64 ((n : Int) + 1 + 1)) (A ++ T)) := by have h := H5.out; rw [HX.out] at h; exact h
      have hATl : Hid ((A ++ T).length = n + 1) := by show _ = _; rw [List.length_append]; exact hAT
      have hcp4 : n + 1 + 1 ≤ cp' := HA4.out.2.2.1
      obtain ⟨m, hm⟩ : ∃ m, m = A.length + 1 := ⟨_, rfl⟩
      have hwm : IntKind.i64.wrap ((A.length : Int) + 1) = (m : Int) := by rw [wrap64_fits _ (by omega) (by omega)]; omega
      have hm1 : m ≤ n + 1 + 1 := by omega
      have hmz : (m : Int) ≤ (n : Int) + 1 + 1 := by omega
      have hm0 : (0 : Int) ≤ (m : Int) := by omega
      have hAz : (A.length : Int) ≤ (n : Int) + 1 + 1 := by omega
      have HM : Hid (m = A.length + 1) := hm
      have hcn : (T.map (Value.int .i16)).length = Nat.min (n + 1 + 1 - A.length) (n + 1 + 1 - m) := by rw [List.length_map]; show _ = min _ _; omega
      have HCN : Hid _ := hcn
      clear hm
      have hb0 : A.length ≤ n + 1 + 1 := by omega
      have hsrc : Hid (∀ j v, (T.map (Value.int .i16))[j]? = some v → cur'[off' + A.length + j]? = some v) := by
        intro j v hv
        have hj : j < T.length := by
          rcases Nat.lt_or_ge j T.length with h | h
          · exact h
          · rw [List.getElem?_eq_none (by simpa using h)] at hv; cases hv
        rw [Nat.add_assoc, HA4.out.2.2.2.2.2.1 (A.length + j) (by omega), H5x.out.num (A.length + j) (by rw [hATl.out]; omega)]
        rw [List.getElem?_map, List.getElem?_eq_getElem hj] at hv
        rw [← hv]
        simp [List.getD_eq_getElem?_getD, List.getElem?_append_right, List.getElem?_eq_getElem hj]
      have h1c : Hid (∀ v ∈ T.map (Value.int .i16), v.oneCell' = true) := by intro v hv; rw [List.mem_map] at hv; obtain ⟨x, _, rfl⟩ := hv; rfl
      have hfit4 : off' + A.length + 1 + (T.map (Value.int .i16)).length ≤ cur'.size := by have h := HA4.out.2.1; rw [List.length_map]; omega
      clear hcn
      have hpos : Hid (0 < (T.map (Value.int .i16)).length → (if cp' = m then some (⟨bc', off', none⟩ : Addr) else some ⟨bc', off' + m, none⟩) = some ⟨bc', off' + A.length + 1, none⟩ ∧ (if cp' = A.length then some (⟨bc', off', none⟩ : Addr) else some ⟨bc', off' + A.length, none⟩) = some ⟨bc', off' + A.length, none⟩) := by
        intro h
        rw [List.length_map] at h
        have hm := HM.out
        rw [if_neg (by omega), if_neg (by omega), hm, Nat.add_assoc]
        exact ⟨rfl, rfl⟩
      go_cut [] from 10 (fun wx => ∃ c2 : Array Value, Hid (wx.heap[bc']? = some (.cells c2 28 (0, 0)) ∧ c2.size = cur'.size ∧ (∀ k, c2[k]? = if off' + A.length + 1 ≤ k ∧ k < off' + A.length + 1 + (T.map (Value.int .i16)).length then (T.map (Value.int .i16))[k - (off' + A.length + 1)]? else cur'[k]?) ∧ w4.drew.grownBy wx (some bc')))
      case first =>
        go_region_law (refine step_copy_run rfl (.tmp 159) (.tmp 162) 26 rfl 28 Yba.underlying26 sizeE28 (if cp' = m then some (⟨bc', off', none⟩ : Addr) else some ⟨bc', off' + m, none⟩) (if cp' = A.length then some (⟨bc', off', none⟩ : Addr) else some ⟨bc', off' + A.length, none⟩) (n + 1 + 1 - m) (cp' - m) (n + 1 + 1 - A.length) (cp' - A.length) (by simp [Act.eval, Act.put]) (by simp [Act.eval, Act.put]) bc' (off' + A.length + 1) (off' + A.length) cur' 28 HA4.out.1 (T.map (Value.int .i16)) HCN.out hpos.out hsrc.out hfit4 h1c.out ?_; intro w5 c2 HC5)
        generalize (if cp' = m then some (⟨bc', off', none⟩ : Addr) else some ⟨bc', off' + m, none⟩) = dpv
        generalize (if cp' = A.length then some (⟨bc', off', none⟩ : Addr) else some ⟨bc', off' + A.length, none⟩) = spv
        go_wp2_with fail
        go_meet
        case rel => exact ⟨c2, HC5.out⟩
      case rest =>
      obtain ⟨c2, HC5⟩ := hcut
      obtain ⟨w5, hw5⟩ : ∃ w5, w5 = wc := ⟨wc, rfl⟩
      subst hw5
      have h4 : Hid (w4.heap[bc']? = some (.cells cur' 28 (0, 0)) ∧ off' + cp' ≤ cur'.size ∧ (A ++ T).length + 1 ≤ cp' ∧ cp' ≤ maxLen ∧ (bc' = bc ∨ (w3.alloc (Obj.cells #[Value.int IntKind.i16 0] 28)).heap.size ≤ bc') ∧ (∀ k, k < (A ++ T).length → cur'[off' + k]? = cur[off + k]?) ∧ (w3.alloc (Obj.cells #[Value.int IntKind.i16 0] 28)).grownBy w4 (some bc)) := by rw [hATl.out]; exact HA4.out
      have h6 := add_mid H5x.out h4.out HC5.out
      have h7 := add_end (p := p) H5x.out h4.out HC5.out
      rw [hATl.out] at h7
      have HI : Hid (LInv ((w5.setCell ⟨bc', off' + A.length, none⟩ (.int .i16 p)).setCell ⟨br, 0, none⟩ (.slice (some ⟨bc', off', none⟩) (n + 1 + 1) cp')) bl (.int .i64 ys.length) ys ∧ Below bl w ((w5.setCell ⟨bc', off' + A.length, none⟩ (.int .i16 p)).setCell ⟨br, 0, none⟩ (.slice (some ⟨bc', off', none⟩) (n + 1 + 1) cp'))) := by
        refine ⟨.inr ⟨by rw [HY.out]; simp, ?_⟩, ?_⟩
        · have h8 := h7.1
          have e1 : ys.length = n + 1 + 1 := by have h := hATl.out; rw [HY.out]; simp at h ⊢; omega
          rw [e1, HY.out]
          exact ⟨_, _, _, _, _, _, _, h8⟩
        · exact (HB1.out.trans (((Qt.below H2.out).mono (by have := lt_of_block H1.out.lb; omega)).trans ((Qt.below H4.out).mono (by have := lt_of_block H3.out.lb; omega)))).trans h7.2
      obtain ⟨b1, b2, m1, m2, m3, m4⟩ := h6
      obtain ⟨v5, hv5⟩ : ∃ v, c2[off' + A.length]? = some v := ⟨_, Array.getElem?_eq_getElem m4⟩
      have q4 := blk_cell HC5.out.1 (off' + A.length)
      have q5 := blk_free HC5.out.1 (off' + A.length)
      rw [hv5] at q4
      have hAz1 : (A.length : Int) < (n : Int) + 1 + 1 := by omega
      have M1 := blk_set_other m1 ⟨bc', off' + A.length, none⟩ (.int .i16 p) (by show bl ≠ bc'; omega)
      have M2 := blk_set_other m2 ⟨bc', off' + A.length, none⟩ (.int .i16 p) (by show br ≠ bc'; omega)
      have q1 := blk_cell M1 1
      have q2 := blk_cell M2 0
      have q3 := blk_free M2 0
      rw [H5x.out.r0] at q2
      simp only [List.getElem?_toArray, List.getElem?_cons_succ, List.getElem?_cons_zero] at q1
      have HIs := HI
      clear h7 m1 m2 m3 m4 hv5 hi hz0 hz1 hz2 c1 d0 hfit4 hwm hAT hsrc h1c hpos HCN hmz hm0 hm1 HM hcp4 hcapn hml hbrl hbcl hbll hAz hb0 h512 HBb bb HA HL HT HC M1 M2 H5x h4 HA4 HC5 hATl H5 H4 H3 H2 H1 H HB1 HIs
      go_upto_region 18 with fail
      obtain ⟨W6, hW6⟩ : ∃ W6, W6 = w5.setCell ⟨bc', off' + A.length, none⟩ (.int .i16 p) := ⟨_, rfl⟩
      rw [← hW6] at q1 q2 q3 HI ⊢
      clear hW6 q4 q5
      go_wp2
      go_end0
      exact ⟨rfl, HI.out⟩
end Go.Proofs.Ybulkcbhe
