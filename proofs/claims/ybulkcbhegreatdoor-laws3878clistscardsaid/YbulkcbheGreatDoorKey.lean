import Derived.Test.YbulkcbheGreatDoorNetE
namespace Go.Proofs.YbulkcbheGreatDoor
open Go.RowKit
set_option linter.unusedVariables false
set_option linter.unusedSimpArgs false

set_option maxRecDepth 100000 in
set_option maxHeartbeats 800000 in
theorem client_any (bp : Addr) (lo : Int) (p4 : Addr) (w : World) (hz : Zs w p4) (h0 : 0 ≤ lo) (h1 : lo < 281474976710656) :
    Calls Ybaz.prog 33 #[.pointer (some bp), .agg #[.int .u64 0, .int .u64 lo, .pointer (some p4)]] w fun e w' => e = .returned (.agg #[.int .u64 0, .int .u64 lo, .pointer (some p4), .int .u8 33]) ∧ Nw w w' := by
  have HZ : Hid (Zs w p4) := hz
  clear hz
  go_enter Ybaz.func33, Ybaz.ntmps33
  go_wp2_with fail
  refine (unmap_any lo p4 _ (HZ.out.nw (((Nw.refl _).alloc _).alloc _))).mono ?_
  rintro e w1 ⟨rfl, hb⟩
  have B0 : Hid (w1.heap[w.heap.size]? = some (.cells #[.int .u64 0, .int .u64 lo, .pointer (some p4)] 74 (0, 0))) := blk_nw (blk_alloc (blk_new rfl) _) hb
  have B1 : Hid (w1.heap[w.heap.size + 1]? = some (.cells #[.int .u64 0, .int .u64 0, .pointer none, .int .u8 0] 126 (0, 0))) := blk_nw (blk_new (by simp)) hb
  have N1 : Hid (Nw w w1) := (((Nw.refl _).alloc _).alloc _).trans hb
  have K0 := blk_cell B0.out
  have F0 := blk_free B0.out
  clear hb
  go_wp2_with fail
  obtain ⟨w2, hw2⟩ : ∃ w2, w2 = ((w1.setCell ⟨w.heap.size, 0, none⟩ (.int .u64 0)).setCell ⟨w.heap.size, 1, none⟩ (.int .u64 lo)).setCell ⟨w.heap.size, 2, none⟩ (.pointer (some p4)) := ⟨_, rfl⟩
  have C0 : Hid (w2.heap[w.heap.size]? = some (.cells #[.int .u64 0, .int .u64 lo, .pointer (some p4)] 74 (0, 0))) := by rw [hw2]; exact blk_set (blk_set (blk_set B0.out 0 _) 1 _) 2 _
  have C1 : Hid (w2.heap[w.heap.size + 1]? = some (.cells #[.int .u64 0, .int .u64 0, .pointer none, .int .u8 0] 126 (0, 0))) := by
    rw [hw2]
    exact blk_set_other (blk_set_other (blk_set_other B1.out ⟨w.heap.size, 0, none⟩ _ (by show w.heap.size + 1 ≠ w.heap.size; omega)) ⟨w.heap.size, 1, none⟩ _ (by show w.heap.size + 1 ≠ w.heap.size; omega)) ⟨w.heap.size, 2, none⟩ _ (by show w.heap.size + 1 ≠ w.heap.size; omega)
  have N2 : Hid (Nw w w2) := by rw [hw2]; exact ((N1.out.set (p := ⟨w.heap.size, 0, none⟩) (Nat.le_refl _) _).set (p := ⟨w.heap.size, 1, none⟩) (Nat.le_refl _) _).set (p := ⟨w.heap.size, 2, none⟩) (Nat.le_refl _) _
  rw [← hw2]
  clear hw2 K0 F0 B0 B1 N1
  refine (bitLen_any lo p4 _ (HZ.out.nw N2.out)).mono ?_
  rintro e w3 ⟨rfl, hb3⟩
  have D0 : Hid _ := blk_nw C0.out hb3
  have D1 : Hid _ := blk_nw C1.out hb3
  have N3 : Hid (Nw w w3) := N2.out.trans hb3
  have K0 := blk_cell D0.out
  clear hb3
  go_wp2_with fail
  refine (is6_any lo p4 _ (HZ.out.nw N3.out)).mono ?_
  rintro e w4 ⟨rfl, hb4⟩
  have E0 : Hid _ := blk_nw D0.out hb4
  have E1 : Hid _ := blk_nw D1.out hb4
  have N4 : Hid (Nw w w4) := N3.out.trans hb4
  clear hb4 K0
  have K0 := blk_cell E0.out
  go_wp2_with fail
  refine (prefix_any lo p4 _ (HZ.out.nw N4.out) h0 h1).mono ?_
  rintro e w5 ⟨rfl, hb5⟩
  have G1 : Hid _ := blk_nw E1.out hb5
  have N5 : Hid (Nw w w5) := N4.out.trans hb5
  have hl := lt_of_block G1.out
  clear hb5 K0
  have K1 := blk_cell G1.out
  have F1 := blk_free G1.out
  go_wp2_with fail
  have hx : w.heap.size ≤ w.heap.size + 1 := Nat.le_succ _
  refine bodyPost_ret (v := .agg #[.int .u64 0, .int .u64 lo, .pointer (some p4), .int .u8 33]) (by simp [results, Ybaz.results33, go_sem, K1, hl]) rfl ⟨rfl, ?_⟩
  exact ((((N5.out.set hx _).set hx _).set hx _).set hx _).alloc _

theorem field126 (lo : Int) (p4 : Addr) (w : World) : Sem.run Ybaz.prog (Instr.field 126 (.agg #[.int .u64 0, .int .u64 lo, .pointer (some p4), .int .u8 33]) 0) w = .ok (.agg #[.int .u64 0, .int .u64 lo, .pointer (some p4), .int .u8 33]) w := by kernel_rfl
set_option maxRecDepth 100000 in
set_option maxHeartbeats 1600000 in
theorem key_any (be : Nat) (lo x y z u : Int) (p4 : Addr) (w : World) (hz : Zs w p4) (hx0 : 0 ≤ x) (hx : x ≤ 255) (hy0 : 0 ≤ y) (hy : y ≤ 255) (hz0 : 0 ≤ z) (hzz : z ≤ 255) (hu0 : 0 ≤ u) (hu : u ≤ 255) (hlo : lo = 281470681743360 + x * 16777216 + y * 65536 + z * 256 + u) :
    Calls Ybaz.prog 19 #[.pointer (some ⟨be, 0, none⟩), .agg #[.int .u64 0, .int .u64 lo, .pointer (some p4)]] w fun e w' => e = .returned (.tuple #[.agg #[.int .u8 0, .int .u8 0, .int .u8 0, .int .u8 0, .int .u8 0, .int .u8 0, .int .u8 0, .int .u8 0, .int .u8 0, .int .u8 0, .int .u8 255, .int .u8 255, .int .u8 x, .int .u8 y, .int .u8 z, .int .u8 u], .bool true]) ∧ Nw w w' := by
  have HZ : Hid (Zs w p4) := hz
  have HL : Hid _ := hlo
  have hl0 : 0 ≤ lo := by omega
  have hl1 : lo < 281474976710656 := by omega
  clear hz hlo
  go_enter Ybaz.func19, Ybaz.ntmps19
  go_wp2_with fail
  refine (isValid_any lo p4 _ (HZ.out.nw (((Nw.refl _).alloc _).alloc _))).mono ?_
  rintro e w1 ⟨rfl, hb⟩
  have B0 : Hid (w1.heap[w.heap.size]? = some (.cells #[.int .u64 0, .int .u64 lo, .pointer (some p4)] 74 (0, 0))) := blk_nw (blk_alloc (blk_new rfl) _) hb
  have B1 : Hid (w1.heap[w.heap.size + 1]? = some (.cells #[.int .u8 0, .int .u8 0, .int .u8 0, .int .u8 0, .int .u8 0, .int .u8 0, .int .u8 0, .int .u8 0, .int .u8 0, .int .u8 0, .int .u8 0, .int .u8 0, .int .u8 0, .int .u8 0, .int .u8 0, .int .u8 0] 30 (0, 0))) := blk_nw (blk_new (by simp)) hb
  have N1 : Hid (Nw w w1) := (((Nw.refl _).alloc _).alloc _).trans hb
  have K0 := blk_cell B0.out
  have hlt := lt_of_block B0.out
  clear hb
  go_upto_region 3 with fail
  have hxx : w.heap.size ≤ w.heap.size + 1 := Nat.le_succ _
  have hfd := field126 lo p4
  go_cut [5] from 6 (fun s5 wx => s5 = .bool true ∧ Hid (wx.heap[w.heap.size + 1]? = some (.cells #[.int .u8 0, .int .u8 0, .int .u8 0, .int .u8 0, .int .u8 0, .int .u8 0, .int .u8 0, .int .u8 0, .int .u8 0, .int .u8 0, .int .u8 255, .int .u8 255, .int .u8 x, .int .u8 y, .int .u8 z, .int .u8 u] 30 (0, 0)) ∧ Nw w wx))
  case first =>
    go_region_with (first | (go_at_call 33; refine (client_any _ lo p4 _ (HZ.out.nw N1.out.drew) hl0 hl1).mono ?_; rintro e wk ⟨rfl, hbk⟩; have HK1 : Hid _ := blk_nw (blk_drew B1.out) hbk; have NK : Hid (Nw w wk) := N1.out.drew.trans hbk; clear hbk) | (go_at_call 34; refine (prefixAddr_any 0 lo (.bool true) 33 p4 _).mono ?_; rintro e wp ⟨rfl, hbp⟩; have HP1 : Hid _ := blk_nw HK1.out hbp; have NP : Hid (Nw w wp) := NK.out.trans hbp; clear hbp) | (go_at_call 35; refine (as16_any lo x y z u p4 _ hx0 hx hy0 hy hz0 hzz hu0 hu HL.out).mono ?_; rintro e wq ⟨rfl, hbq⟩; have HC1 : Hid _ := blk_nw HP1.out hbq; have NW : Hid (Nw w wq) := NP.out.trans hbq; have hcq := blk_cell HC1.out; have hfq := blk_free HC1.out; clear hbq))
    all_goals (go_wp2_with fail; go_meet; case rel => exact ⟨rfl, (blk_set (blk_set (blk_set (blk_set (blk_set (blk_set (blk_set (blk_set (blk_set (blk_set (blk_set (blk_set (blk_set (blk_set (blk_set (blk_set HC1.out 0 _) 1 _) 2 _) 3 _) 4 _) 5 _) 6 _) 7 _) 8 _) 9 _) 10 _) 11 _) 12 _) 13 _) 14 _) 15 _), ((((((((((((((((NW.out.set hxx _).set hxx _).set hxx _).set hxx _).set hxx _).set hxx _).set hxx _).set hxx _).set hxx _).set hxx _).set hxx _).set hxx _).set hxx _).set hxx _).set hxx _).set hxx _)⟩)
  case rest =>
    obtain ⟨rfl, hB⟩ := hcut
    have K1 := blk_cell hB.out.1
    clear K0
    go_wp2_with fail
    refine bodyPost_ret (v := .tuple #[.agg #[.int .u8 0, .int .u8 0, .int .u8 0, .int .u8 0, .int .u8 0, .int .u8 0, .int .u8 0, .int .u8 0, .int .u8 0, .int .u8 0, .int .u8 255, .int .u8 255, .int .u8 x, .int .u8 y, .int .u8 z, .int .u8 u], .bool true]) (by simp [results, Ybaz.results19, go_sem, K1]) rfl ⟨rfl, hB.out.2⟩
end Go.Proofs.YbulkcbheGreatDoor
