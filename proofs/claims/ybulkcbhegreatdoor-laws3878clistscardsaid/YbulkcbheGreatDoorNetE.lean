import Derived.Test.YbulkcbheGreatDoorNetD
namespace Go.Proofs.YbulkcbheGreatDoor
open Go.RowKit
set_option linter.unusedVariables false
set_option linter.unusedSimpArgs false

set_option maxRecDepth 100000 in
set_option maxHeartbeats 800000 in
theorem as16_any (lo x y z u : Int) (p4 : Addr) (w : World) (hx0 : 0 ≤ x) (hx : x ≤ 255) (hy0 : 0 ≤ y) (hy : y ≤ 255) (hz0 : 0 ≤ z) (hz : z ≤ 255) (hu0 : 0 ≤ u) (hu : u ≤ 255) (hlo : lo = 281470681743360 + x * 16777216 + y * 65536 + z * 256 + u) :
    Calls Ybaz.prog 35 #[.agg #[.int .u64 0, .int .u64 lo, .pointer (some p4)]] w fun e w' => e = .returned (.agg #[.int .u8 0, .int .u8 0, .int .u8 0, .int .u8 0, .int .u8 0, .int .u8 0, .int .u8 0, .int .u8 0, .int .u8 0, .int .u8 0, .int .u8 255, .int .u8 255, .int .u8 x, .int .u8 y, .int .u8 z, .int .u8 u]) ∧ Nw w w' := by
  have HL : Hid _ := hlo
  clear hlo
  go_enter Ybaz.func35, Ybaz.ntmps35
  go_upto_region 1 with fail
  go_cut [] from 3 (fun wx => Hid (wx.heap[w.heap.size]? = some (.cells #[.int .u64 0, .int .u64 lo, .pointer (some p4)] 74 (0, 0)) ∧ wx.heap[w.heap.size + 1]? = some (.cells #[.int .u8 0, .int .u8 0, .int .u8 0, .int .u8 0, .int .u8 0, .int .u8 0, .int .u8 0, .int .u8 0, .int .u8 0, .int .u8 0, .int .u8 0, .int .u8 0, .int .u8 0, .int .u8 0, .int .u8 0, .int .u8 0] 29 (0, 0)) ∧ Nw w wx))
  case first =>
    go_region_with (go_at_call 47; refine (bePut_zero _ _ _ (blk_drew (blk_new (by simp)))).mono ?_; rintro e wm ⟨rfl, hbm, hgm⟩; have HB0 : Hid (wm.heap[w.heap.size]? = some (.cells #[.int .u64 0, .int .u64 lo, .pointer (some p4)] 74 (0, 0))) := blk_grown (blk_drew (blk_alloc (blk_new rfl) _)) hgm (by simp); have HB1 : Hid _ := hbm; have HM : Hid (Nw w wm) := nw_grown (((Nw.refl _).alloc _).alloc _).drew hgm (by simp); clear hbm hgm)
    all_goals (go_wp2_with fail; go_meet; case rel => exact ⟨HB0.out, HB1.out, HM.out⟩)
  case rest =>
    have K0 := blk_cell hcut.out.1
    have hl0 := lt_of_block hcut.out.1
    have hl1 := lt_of_block hcut.out.2.1
    obtain ⟨wa, hwa⟩ : ∃ wa, wa = wc := ⟨wc, rfl⟩
    subst hwa
    have hB : Hid _ := hcut
    clear hcut
    go_upto_region 2 with fail
    go_cut [] from 3 (fun wx => Hid (wx.heap[w.heap.size + 1]? = some (.cells #[.int .u8 0, .int .u8 0, .int .u8 0, .int .u8 0, .int .u8 0, .int .u8 0, .int .u8 0, .int .u8 0, .int .u8 0, .int .u8 0, .int .u8 255, .int .u8 255, .int .u8 x, .int .u8 y, .int .u8 z, .int .u8 u] 29 (0, 0)) ∧ Nw w wx))
    case first =>
      go_region_with (go_at_call 47; refine (bePut_lo _ _ _ lo x y z u hx0 hx hy0 hy hz0 hz hu0 hu HL.out (blk_drew hB.out.2.1)).mono ?_; rintro e wm ⟨rfl, hbm, hgm⟩; have HB1 : Hid _ := hbm; have HM : Hid (Nw w wm) := nw_grown hB.out.2.2.drew hgm (by simp); clear hbm hgm)
      all_goals (go_wp2_with fail; go_meet; case rel => exact ⟨HB1.out, HM.out⟩)
    case rest =>
      have K1 := blk_cell hcut.out.1
      have F1 := blk_free hcut.out.1
      have H3 : Hid (Nw w wc) := hcut.out.2
      clear K0
      go_wp2_with fail
      have hx : w.heap.size ≤ w.heap.size + 1 := Nat.le_succ _
      refine bodyPost_ret (v := .agg #[.int .u8 0, .int .u8 0, .int .u8 0, .int .u8 0, .int .u8 0, .int .u8 0, .int .u8 0, .int .u8 0, .int .u8 0, .int .u8 0, .int .u8 255, .int .u8 255, .int .u8 x, .int .u8 y, .int .u8 z, .int .u8 u]) (by simp [results, Ybaz.results35, go_sem, K1]) rfl ⟨rfl, ?_⟩
      exact ((((((((((((((((H3.out.set hx _).set hx _).set hx _).set hx _).set hx _).set hx _).set hx _).set hx _).set hx _).set hx _).set hx _).set hx _).set hx _).set hx _).set hx _).set hx _)
end Go.Proofs.YbulkcbheGreatDoor
