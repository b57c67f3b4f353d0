import Derived.Test.YbulkcbheGreatDoorNetC
namespace Go.Proofs.YbulkcbheGreatDoor
open Go.RowKit
set_option linter.unusedVariables false
set_option linter.unusedSimpArgs false

set_option maxRecDepth 100000 in
set_option maxHeartbeats 800000 in
theorem prefix_any (lo : Int) (p4 : Addr) (w : World) (hz : Zs w p4) (h0 : 0 ≤ lo) (h1 : lo < 281474976710656) :
    Calls Ybaz.prog 46 #[.agg #[.int .u64 0, .int .u64 lo, .pointer (some p4)], .int .i64 32] w fun e w' => e = .returned (.tuple #[.agg #[.int .u64 0, .int .u64 lo, .pointer (some p4), .int .u8 33], .nilIface]) ∧ Nw w w' := by
  have HZ : Hid (Zs w p4) := hz
  obtain ⟨h4, hz0, hg⟩ := hz
  have hg0 : 0 < w.heap.size := by omega
  have e1 := eqSame p4
  have e2 := eqNone p4
  go_enter Ybaz.func46, Ybaz.ntmps46
  go_upto_region 13 with fail
  go_cut [] from 7 (fun wx => Hid (wx.heap[w.heap.size]? = some (.cells #[.int .u64 0, .int .u64 lo, .pointer (some p4)] 74 (0, 0)) ∧ wx.heap[w.heap.size + 1]? = some (.cells #[.int .u64 0, .int .u64 0, .pointer none, .int .u8 0] 124 (0, 0)) ∧ Nw w wx))
  case first =>
    go_region_with (first | (go_at_call 63; refine (mask6_128 _).mono ?_; rintro e wm ⟨rfl, hbm⟩; have HB0 : Hid (wm.heap[w.heap.size]? = some (.cells #[.int .u64 0, .int .u64 lo, .pointer (some p4)] 74 (0, 0))) := blk_nw (w := World.drew _) (blk_alloc (blk_new rfl) _) hbm; have HB1 : Hid (wm.heap[w.heap.size + 1]? = some (.cells #[.int .u64 0, .int .u64 0, .pointer none, .int .u8 0] 124 (0, 0))) := blk_nw (w := World.drew _) (blk_new (by simp)) hbm; have hcm := blk_cell HB0.out; have HM : Hid (Nw w wm) := (((Nw.refl _).alloc _).alloc _).drew.trans hbm; have hsm := lt_of_block HB0.out; clear hbm) | (go_at_call 62; refine (and128_any lo _ h0 h1).mono ?_; rintro e wn ⟨rfl, hbn⟩; have HC0 := blk_nw HB0.out hbn; have HC1 : Hid _ := blk_nw HB1.out hbn; have hcn := blk_cell HC0; have hfn := blk_free HC0; have HC0h : Hid _ := HC0; have HN : Hid (Nw w wn) := HM.out.trans hbn; clear hbn HC0))
    all_goals (go_wp2_with fail; go_meet; case rel => exact ⟨blk_set (blk_set HC0h.out 0 _) 1 _, blk_set_other (blk_set_other HC1.out ⟨w.heap.size, 0, none⟩ _ (by show w.heap.size + 1 ≠ w.heap.size; omega)) ⟨w.heap.size, 1, none⟩ _ (by show w.heap.size + 1 ≠ w.heap.size; omega), (HN.out.set (p := ⟨w.heap.size, 0, none⟩) (Nat.le_refl _) _).set (p := ⟨w.heap.size, 1, none⟩) (Nat.le_refl _) _⟩)
  case rest =>
    have K0 := blk_cell hcut.out.1
    go_wp2_with fail
    refine (prefixFrom_any lo p4 _ (HZ.out.nw hcut.out.2.2)).mono ?_
    rintro e w3 ⟨rfl, hb3⟩
    have B1 : Hid _ := blk_nw hcut.out.2.1 hb3
    have K1 := blk_cell B1.out
    have F1 := blk_free B1.out
    have HW : Hid (Nw w w3) := hcut.out.2.2.trans hb3
    clear hb3 K0
    go_wp2_with fail
    have hx : w.heap.size ≤ w.heap.size + 1 := Nat.le_succ _
    refine bodyPost_ret (v := .tuple #[.agg #[.int .u64 0, .int .u64 lo, .pointer (some p4), .int .u8 33], .nilIface]) (by simp [results, Ybaz.results46, go_sem, K1]) rfl ⟨rfl, ?_⟩
    exact (((HW.out.set hx _).set hx _).set hx _).set hx _

/-! The sixteen bytes. -/
theorem grownBy_setCell (w : World) (a : Addr) (v : Value) : w.grownBy (w.setCell a v) (some a.block) :=
  ⟨rfl, rfl, rfl, by simp, fun k _ hk => Below.heap_setCell _ _ _ _ (fun e => hk (by rw [e]))⟩
theorem grownBy_trans {a b c : World} {row : Option Nat} (h : a.grownBy b row) (k : b.grownBy c row) : a.grownBy c row :=
  ⟨k.os.trans h.os, k.tape.trans h.tape, k.output.trans h.output, Nat.le_trans h.size k.size, fun i hi hn => (k.block i (Nat.lt_of_lt_of_le hi h.size) hn).trans (h.block i hi hn)⟩
set_option maxRecDepth 100000 in
set_option maxHeartbeats 800000 in
theorem bePut_zero (b c : Nat) (w : World) (hb : w.heap[b]? = some (.cells #[.int .u8 0, .int .u8 0, .int .u8 0, .int .u8 0, .int .u8 0, .int .u8 0, .int .u8 0, .int .u8 0, .int .u8 0, .int .u8 0, .int .u8 0, .int .u8 0, .int .u8 0, .int .u8 0, .int .u8 0, .int .u8 0] 29 (0, 0))) :
    Calls Ybaz.prog 47 #[.slice (some ⟨b, 0, none⟩) 8 c, .int .u64 0] w fun e w' => e = .returned (.tuple #[]) ∧ w'.heap[b]? = some (.cells #[.int .u8 0, .int .u8 0, .int .u8 0, .int .u8 0, .int .u8 0, .int .u8 0, .int .u8 0, .int .u8 0, .int .u8 0, .int .u8 0, .int .u8 0, .int .u8 0, .int .u8 0, .int .u8 0, .int .u8 0, .int .u8 0] 29 (0, 0)) ∧ w.grownBy w' (some b) := by
  have K := blk_cell hb
  have F := blk_free hb
  have HB : Hid _ := hb
  clear hb
  go_enter Ybaz.func47, Ybaz.ntmps47
  go_wp2
  go_end0
  refine ⟨rfl, blk_set (blk_set (blk_set (blk_set (blk_set (blk_set (blk_set (blk_set HB.out 0 _) 1 _) 2 _) 3 _) 4 _) 5 _) 6 _) 7 _, ?_⟩
  exact grownBy_trans (grownBy_trans (grownBy_trans (grownBy_trans (grownBy_trans (grownBy_trans (grownBy_trans (grownBy_setCell _ _ _) (grownBy_setCell _ _ _)) (grownBy_setCell _ _ _)) (grownBy_setCell _ _ _)) (grownBy_setCell _ _ _)) (grownBy_setCell _ _ _)) (grownBy_setCell _ _ _)) (grownBy_setCell _ _ _)

set_option maxRecDepth 100000 in
set_option maxHeartbeats 800000 in
theorem bePut_lo (b cp : Nat) (w : World) (lo x y z u : Int) (hx0 : 0 ≤ x) (hx : x ≤ 255) (hy0 : 0 ≤ y) (hy : y ≤ 255) (hz0 : 0 ≤ z) (hz : z ≤ 255) (hu0 : 0 ≤ u) (hu : u ≤ 255) (hlo : lo = 281470681743360 + x * 16777216 + y * 65536 + z * 256 + u)
    (hb : w.heap[b]? = some (.cells #[.int .u8 0, .int .u8 0, .int .u8 0, .int .u8 0, .int .u8 0, .int .u8 0, .int .u8 0, .int .u8 0, .int .u8 0, .int .u8 0, .int .u8 0, .int .u8 0, .int .u8 0, .int .u8 0, .int .u8 0, .int .u8 0] 29 (0, 0))) :
    Calls Ybaz.prog 47 #[.slice (some ⟨b, 8, none⟩) 8 cp, .int .u64 lo] w fun e w' => e = .returned (.tuple #[]) ∧ w'.heap[b]? = some (.cells #[.int .u8 0, .int .u8 0, .int .u8 0, .int .u8 0, .int .u8 0, .int .u8 0, .int .u8 0, .int .u8 0, .int .u8 0, .int .u8 0, .int .u8 255, .int .u8 255, .int .u8 x, .int .u8 y, .int .u8 z, .int .u8 u] 29 (0, 0)) ∧ w.grownBy w' (some b) := by
  have K := blk_cell hb
  have F := blk_free hb
  have HB : Hid _ := hb
  have HL : Hid _ := hlo
  have hl0 : 0 ≤ lo := by omega
  have hl1 : lo < 281474976710656 := by omega
  clear hb hlo
  go_enter Ybaz.func47, Ybaz.ntmps47
  go_wp2
  go_end0
  have hlo := HL.out
  have b0 : lo / 72057594037927936 = 0 := by omega
  have b1 : lo / 281474976710656 = 0 := by omega
  have b2 : lo / 1099511627776 = 255 := by omega
  have b3 : lo / 4294967296 % 256 = 255 := by omega
  have b4 : lo / 16777216 % 256 = x := by omega
  have b5 : lo / 65536 % 256 = y := by omega
  have b6 : lo / 256 % 256 = z := by omega
  have b7 : lo % 256 = u := by omega
  rw [b0, b1, b2, b3, b4, b5, b6, b7]
  refine ⟨rfl, blk_set (blk_set (blk_set (blk_set (blk_set (blk_set (blk_set (blk_set HB.out 8 _) 9 _) 10 _) 11 _) 12 _) 13 _) 14 _) 15 _, ?_⟩
  exact grownBy_trans (grownBy_trans (grownBy_trans (grownBy_trans (grownBy_trans (grownBy_trans (grownBy_trans (grownBy_setCell _ _ _) (grownBy_setCell _ _ _)) (grownBy_setCell _ _ _)) (grownBy_setCell _ _ _)) (grownBy_setCell _ _ _)) (grownBy_setCell _ _ _)) (grownBy_setCell _ _ _)) (grownBy_setCell _ _ _)

theorem blk_drew {w : World} {b : Nat} {o : Obj} (h : w.heap[b]? = some o) : w.drew.heap[b]? = some o := h
theorem nw_grown {w a b : World} {k : Nat} (h : Nw w a) (g : a.grownBy b (some k)) (hk : w.heap.size ≤ k) : Nw w b :=
  Below.grown h g h.size (fun j hj => by cases hj; exact hk)
theorem blk_grown {w w' : World} {b : Nat} {o : Obj} {row : Option Nat} (h : w.heap[b]? = some o) (g : w.grownBy w' row) (hne : some b ≠ row) : w'.heap[b]? = some o := by
  rw [g.block b (lt_of_block h) hne]; exact h

end Go.Proofs.YbulkcbheGreatDoor
