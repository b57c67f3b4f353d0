import Derived.Test.YbulkcbheGreatDoorU32
import Derived.Deep.RegionHeld3
namespace Go.Proofs.YbulkcbheGreatDoor
open Go.RowKit
set_option linter.unusedVariables false
set_option linter.unusedSimpArgs false
theorem mixed2 : Ybaz.prog.follows .mixedOrders = true := by kernel_rfl
set_option maxRecDepth 100000 in
set_option maxHeartbeats 800000 in
theorem as4_any (lo x y z u : Int) (p4 : Addr) (w : World) (hz : Zs w p4) (hx0 : 0 ≤ x) (hx : x ≤ 255) (hy0 : 0 ≤ y) (hy : y ≤ 255) (hz0 : 0 ≤ z) (hzz : z ≤ 255) (hu0 : 0 ≤ u) (hu : u ≤ 255) (hlo : lo = 281470681743360 + x * 16777216 + y * 65536 + z * 256 + u) :
    Calls Ybaz.prog 57 #[.agg #[.int .u64 0, .int .u64 lo, .pointer (some p4)]] w fun e w' => e = .returned (.agg #[.int .u8 x, .int .u8 y, .int .u8 z, .int .u8 u]) ∧ Nw w w' := by
  obtain ⟨h4, h0, hg⟩ := hz
  have hg0 : 0 < w.heap.size := by omega
  have e1 := eqSame p4
  obtain ⟨v, hv⟩ : ∃ v, v = x * 16777216 + y * 65536 + z * 256 + u := ⟨_, rfl⟩
  have HV : Hid (v = x * 16777216 + y * 65536 + z * 256 + u) := hv
  have hcv : IntKind.u32.wrap lo = v := by rw [IntKind.wrap_u32]; omega
  clear hv hlo
  go_enter Ybaz.func57, Ybaz.ntmps57
  go_wp2_with fail
  go_region_with (go_at_call 68; refine (bePut32 _ _ v x y z u _ hx0 hx hy0 hy hz0 hzz hu0 hu HV.out (blk_drew (blk_new (by simp)))).mono ?_; rintro e wm ⟨rfl, hbm, hgm⟩; have HB1 : Hid (wm.heap[w.heap.size + 1]? = some (.cells #[.int .u8 x, .int .u8 y, .int .u8 z, .int .u8 u] 76 (0, 0))) := hbm; have HM : Hid (Nw w wm) := nw_grown (((Nw.refl _).alloc _).alloc _).drew hgm (by simp); clear hbm hgm)
  all_goals have K1 := blk_cell HB1.out
  all_goals have F1 := blk_free HB1.out
  all_goals have hle : w.heap.size ≤ w.heap.size + 1 := Nat.le_succ _
  all_goals go_wp2_with fail
  all_goals refine bodyPost_ret (v := .agg #[.int .u8 x, .int .u8 y, .int .u8 z, .int .u8 u]) (by simp [results, Ybaz.results57, go_sem, K1]) rfl ⟨rfl, ?_⟩
  all_goals exact (((HM.out.set hle _).set hle _).set hle _).set hle _

set_option maxRecDepth 100000 in
set_option maxHeartbeats 800000 in
theorem numberOf_any (lo h x y z u : Int) (p4 : Addr) (w : World) (hz : Zs w p4) (hx0 : 0 ≤ x) (hx : x ≤ 255) (hy0 : 0 ≤ y) (hy : y ≤ 255) (hz0 : 0 ≤ z) (hzz : z ≤ 255) (hu0 : 0 ≤ u) (hu : u ≤ 255) (hlo : lo = 281470681743360 + x * 16777216 + y * 65536 + z * 256 + u) (hh : h = x * 16777216 + y * 65536 + z * 256 + u) :
    Calls Ybaz.prog 43 #[.agg #[.int .u64 0, .int .u64 lo, .pointer (some p4)]] w fun e w' => e = .returned (.agg #[.int .u64 (h * 4294967296), .int .u64 0]) ∧ Nw w w' := by
  have hh0 : 0 ≤ h := by omega
  have hh1 : h < 4294967296 := by omega
  have hwr1 : IntKind.u64.wrap h = h := by rw [IntKind.wrap_u64]; omega
  have hwr2 : IntKind.u64.wrap (h * 4294967296) = h * 4294967296 := by rw [IntKind.wrap_u64]; omega
  have HZ : Hid (Zs w p4) := hz
  have HA : Hid (∀ w', Nw w w' → Calls Ybaz.prog 57 #[.agg #[.int .u64 0, .int .u64 lo, .pointer (some p4)]] w' fun e w'' => e = .returned (.agg #[.int .u8 x, .int .u8 y, .int .u8 z, .int .u8 u]) ∧ Nw w' w'') := fun w' k => as4_any lo x y z u p4 w' (hz.nw k) hx0 hx hy0 hy hz0 hzz hu0 hu hlo
  have HU : Hid (∀ (b cp : Nat) (w : World), w.heap[b]? = some (.cells #[.int .u8 x, .int .u8 y, .int .u8 z, .int .u8 u] 76 (0, 0)) → Calls Ybaz.prog 58 #[.agg #[], .slice (some ⟨b, 0, none⟩) 4 cp] w fun e w' => e = .returned (.int .u32 h) ∧ Nw w w') := fun b cp w hb => by
    rw [hh]
    exact uint32_any b cp x y z u w hx0 hx hy0 hy hz0 hzz hu0 hu (blk_cell hb 0) (blk_cell hb 1) (blk_cell hb 2) (blk_cell hb 3)
  clear hz hlo hh
  go_enter Ybaz.func43, Ybaz.ntmps43
  go_wp2_with fail
  refine (is4_any lo p4 _ (HZ.out.nw (((Nw.refl _).alloc _).alloc _))).mono ?_
  rintro e w1 ⟨rfl, hb⟩
  have N1 : Hid (Nw w w1) := (((Nw.refl _).alloc _).alloc _).trans hb
  have B0 : Hid (w1.heap[w.heap.size]? = some (.cells #[.int .u64 0, .int .u64 lo, .pointer (some p4)] 74 (0, 0))) := blk_nw (blk_alloc (blk_new rfl) _) hb
  have B1 : Hid (w1.heap[w.heap.size + 1]? = some (.cells #[.int .u64 0, .int .u64 0] 106 (0, 0))) := blk_nw (blk_new (by simp)) hb
  clear hb
  have k0 := blk_cell B0.out
  go_wp2_with fail
  refine (HA.out _ N1.out).mono ?_
  rintro e w2 ⟨rfl, hb⟩
  have N2 : Hid (Nw w w2) := N1.out.trans hb
  have C1 : Hid (w2.heap[w.heap.size + 1]? = some (.cells #[.int .u64 0, .int .u64 0] 106 (0, 0))) := blk_nw B1.out hb
  clear hb k0 B0 B1 N1
  go_wp2_with fail
  obtain ⟨w3, hw3⟩ : ∃ w3, w3 = w2.alloc (.cells #[.int .u8 x, .int .u8 y, .int .u8 z, .int .u8 u] 76) := ⟨_, rfl⟩
  have N3 : Hid (Nw w w3) := hw3 ▸ N2.out.alloc _
  have D1 : Hid (w3.heap[w.heap.size + 1]? = some (.cells #[.int .u64 0, .int .u64 0] 106 (0, 0))) := hw3 ▸ blk_alloc C1.out _
  have D2 : Hid (w3.heap[w2.heap.size]? = some (.cells #[.int .u8 x, .int .u8 y, .int .u8 z, .int .u8 u] 76 (0, 0))) := hw3 ▸ blk_new rfl
  have hne : w2.heap.size ≠ w.heap.size + 1 := Nat.ne_of_gt (lt_of_block C1.out)
  have hle : w.heap.size ≤ w.heap.size + 1 := Nat.le_succ _
  rw [← hw3]
  clear hw3 C1 N2
  generalize w2.heap.size = bt at D2 hne ⊢
  refine wp_region_held_drew (S := fun wx => wx.heap[bt]? = some (.cells #[.int .u8 x, .int .u8 y, .int .u8 z, .int .u8 u] 76 (0, 0))) mixed2 (blk_drew D2.out) (fun hHeld => ?_)
  clear hHeld
  refine wpAnyH_take (i := 0) (v := .agg #[]) rfl (by kernel_rfl) (by kernel_rfl) (by kernel_rfl) (fun _ _ _ h => h) (Or.inl ⟨by rfl, fun wx hx => ?_⟩) (blk_drew D2.out) ?_
  · have q0 := blk_cell hx
    clear hx
    go_simp
  simp only [Act.put, List.setIfInBounds_toArray, List.set_cons_zero, List.set_cons_succ]
  refine wpAnyH_take (i := 1) (v := .slice (some ⟨bt, 0, none⟩) 4 4) rfl (by kernel_rfl) (by kernel_rfl) (by kernel_rfl) (fun _ _ _ h => h) (Or.inl ⟨by rfl, fun wx hx => ?_⟩) (blk_drew D2.out) ?_
  · have q0 := blk_cell hx
    clear hx
    go_simp
  simp only [Act.put, List.setIfInBounds_toArray, List.set_cons_zero, List.set_cons_succ]
  refine wpAnyH_ready (rs := [2]) (by kernel_rfl) (by simp) ?_
  refine AllReadyH.cons rfl (fun K hK => ?_) AllReadyH.nil
  go_simp
  refine (HU.out _ _ _ (blk_drew D2.out)).mono ?_
  rintro e w4 ⟨rfl, hb⟩
  have N4 : Hid (Nw w w4) := N3.out.drew.trans hb
  have E1 : Hid (w4.heap[w.heap.size + 1]? = some (.cells #[.int .u64 0, .int .u64 0] 106 (0, 0))) := blk_nw (blk_drew D1.out) hb
  have E2 : Hid (w4.heap[bt]? = some (.cells #[.int .u8 x, .int .u8 y, .int .u8 z, .int .u8 u] 76 (0, 0))) := blk_nw (blk_drew D2.out) hb
  clear hb D1 D2 N3
  simp only
  refine hK.out _ _ E2.out (fun hHeld => ?_)
  clear hK K hHeld
  refine wpAnyH_take (i := 3) (v := .int .u64 h) rfl (by kernel_rfl) (by kernel_rfl) (by kernel_rfl) (fun _ _ _ h => h) (Or.inl ⟨by rfl, fun wx hx => ?_⟩) E2.out ?_
  · skip
    clear hx
    go_simp
  simp only [Act.put, List.setIfInBounds_toArray, List.set_cons_zero, List.set_cons_succ]
  refine wpAnyH_take (i := 4) (v := .int .u64 (h * 4294967296)) rfl (by kernel_rfl) (by kernel_rfl) (by kernel_rfl) (fun _ _ _ h => h) (Or.inl ⟨by rfl, fun wx hx => ?_⟩) E2.out ?_
  · skip
    clear hx
    go_simp
  simp only [Act.put, List.setIfInBounds_toArray, List.set_cons_zero, List.set_cons_succ]
  refine wpAnyH_take (i := 5) (v := .agg #[.int .u64 (h * 4294967296), .int .u64 0]) rfl (by kernel_rfl) (by kernel_rfl) (by kernel_rfl) (fun _ _ _ h => h) (Or.inl ⟨by rfl, fun wx hx => ?_⟩) E2.out ?_
  · skip
    clear hx
    go_simp
  simp only [Act.put, List.setIfInBounds_toArray, List.set_cons_zero, List.set_cons_succ]
  have k0 := blk_cell E1.out
  have f0 := blk_free E1.out
  refine wpAnyH_ready (rs := [6]) (by kernel_rfl) (by simp) ?_
  refine AllReadyH.cons rfl (fun K hK => ?_) AllReadyH.nil
  go_simp
  refine hK.out _ _ (blk_set_other (blk_set_other E2.out _ _ hne) _ _ hne) (fun hHeld => ?_)
  clear hK K hHeld
  refine wpAnyH_done (by kernel_rfl) ?_ _
  go_simp
  go_wp2_with fail
  refine bodyPost_ret (v := .agg #[.int .u64 (h * 4294967296), .int .u64 0]) (by simp [results, Ybaz.results43, go_sem, k0]) rfl ⟨rfl, (N4.out.set hle _).set hle _⟩

set_option maxRecDepth 100000 in
set_option maxHeartbeats 800000 in
theorem family_any (bl : Nat) (lo : Int) (p4 : Addr) (w : World) (hz : Zs w p4) :
    Calls Ybaz.prog 41 #[.pointer (some ⟨bl, 0, none⟩), .agg #[.int .u64 0, .int .u64 lo, .pointer (some p4)]] w fun e w' => e = .returned (.pointer (some ⟨bl, 0, none⟩)) ∧ Nw w w' := by
  go_enter Ybaz.func41, Ybaz.ntmps41
  go_wp2_with fail
  refine (is4_any lo p4 _ (hz.nw ((Nw.refl _).alloc _))).mono ?_
  rintro e w1 ⟨rfl, hb⟩
  have N1 : Hid (Nw w w1) := ((Nw.refl _).alloc _).trans hb
  clear hb
  go_wp2_with fail
  go_ret
  exact ⟨rfl, N1.out⟩
end Go.Proofs.YbulkcbheGreatDoor
