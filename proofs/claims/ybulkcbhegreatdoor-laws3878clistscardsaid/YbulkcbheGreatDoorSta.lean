import Derived.Test.YbulkcbheGreatDoorLst
namespace Go.Proofs.YbulkcbheGreatDoor
open Go.RowKit
set_option linter.unusedVariables false
set_option linter.unusedSimpArgs false

set_option maxRecDepth 100000 in
set_option maxHeartbeats 1600000 in
theorem state_ban (be : Nat) (n s lo x y z u : Int) (p4 : Addr) (v : Value) (r : Bool) (bb : Nat) (m t : Int) (w : World) (hz : Zs w p4) (hx0 : 0 ≤ x) (hx : x ≤ 255) (hy0 : 0 ≤ y) (hy : y ≤ 255) (hz0 : 0 ≤ z) (hzz : z ≤ 255) (hu0 : 0 ≤ u) (hu : u ≤ 255) (hlo : lo = 281470681743360 + x * 16777216 + y * 65536 + z * 256 + u)
    (HL : Hid (∀ w', Nw w w' → Calls Ybaz.prog 18 #[.pointer (some ⟨be, 0, none⟩), .agg #[.int .u64 0, .int .u64 lo, .pointer (some p4)]] w' fun e w'' => e = .returned (.tuple #[.bool false, .bool false]) ∧ Nw w' w''))
    (HC : Hid (∀ w', Nw w w' → Calls Ybaz.prog 20 #[.pointer (some ⟨be, 24, none⟩), .agg (kc x y z u)] w' fun e w'' => e = .returned (.pointer none) ∧ Nw w' w''))
    (HG : Hid (∀ w', Nw w w' → Calls Ybaz.prog 24 #[.pointer (some ⟨be, 28, none⟩), .agg (kc x y z u)] w' fun e w'' => e = .returned v ∧ Nw w' w''))
    (HT : Hid (∀ w', Nw w w' → Calls Ybaz.prog 25 #[.pointer (some ⟨be, 0, none⟩), v, .agg #[.int .u64 n, .int .i64 s, .pointer none]] w' fun e w'' => e = .returned (.bool r) ∧ Nw w' w''))
    (HR : Hid (r = true → v = .pointer (some ⟨bb, 0, none⟩) ∧ w.cell? ⟨bb, 16, none⟩ = some (.int .u64 m) ∧ w.cell? ⟨bb, 17, none⟩ = some (.int .i64 t) ∧ w.cell? ⟨bb, 18, none⟩ = some (.pointer none)))
    (HF : Hid (r = false → m = 0 ∧ t = 0)) :
    Calls Ybaz.prog 8 #[.pointer (some ⟨be, 0, none⟩), .agg #[.int .u64 n, .int .i64 s, .pointer none], .agg #[.int .u64 0, .int .u64 lo, .pointer (some p4)]] w fun e w' => e = .returned (.agg #[.int .i64 0, .bool r, .int .u64 m, .int .i64 t, .pointer none, .bool false, .bool false]) ∧ Nw w w' := by
  have HZ : Hid (Zs w p4) := hz
  have HE : Hid (lo = 281470681743360 + x * 16777216 + y * 65536 + z * 256 + u) := hlo
  clear hz hlo
  go_enter Ybaz.func8, Ybaz.ntmps8
  go_wp2_with fail
  refine (HL.out _ ((((Nw.refl _).alloc _).alloc _).alloc _)).mono ?_
  rintro e w1 ⟨rfl, hb⟩
  have B0 : Hid (w1.heap[w.heap.size]? = some (.cells #[.int .u64 n, .int .i64 s, .pointer none] 55 (0, 0))) := blk_nw (blk_alloc (blk_alloc (blk_new rfl) _) _) hb
  have B1 : Hid (w1.heap[w.heap.size + 1]? = some (.cells #[.int .u64 0, .int .u64 lo, .pointer (some p4)] 74 (0, 0))) := blk_nw (blk_alloc (blk_new (by simp)) _) hb
  have B2 : Hid (w1.heap[w.heap.size + 1 + 1]? = some (.cells #[.int .i64 0, .bool false, .int .u64 0, .int .i64 0, .pointer none, .bool false, .bool false] 65 (0, 0))) := blk_nw (blk_new (by simp)) hb
  have N1 : Hid (Nw w w1) := ((((Nw.refl _).alloc _).alloc _).alloc _).trans hb
  clear hb
  have K1 := blk_cell B1.out
  go_wp2_with fail
  refine (key_any be lo x y z u p4 w1 (HZ.out.nw N1.out) hx0 hx hy0 hy hz0 hzz hu0 hu HE.out).mono ?_
  rintro e w2 ⟨rfl, hb⟩
  have B0' : Hid (w2.heap[w.heap.size]? = some (.cells #[.int .u64 n, .int .i64 s, .pointer none] 55 (0, 0))) := blk_nw B0.out hb
  have B2' : Hid (w2.heap[w.heap.size + 1 + 1]? = some (.cells #[.int .i64 0, .bool false, .int .u64 0, .int .i64 0, .pointer none, .bool false, .bool false] 65 (0, 0))) := blk_nw B2.out hb
  have N2 : Hid (Nw w w2) := N1.out.trans hb
  clear hb K1
  clear B0 B1 B2 N1
  go_wp2_with fail
  obtain ⟨w3, hw3⟩ : ∃ w3, w3 = w2.alloc (.cells #[.int .u8 0, .int .u8 0, .int .u8 0, .int .u8 0, .int .u8 0, .int .u8 0, .int .u8 0, .int .u8 0, .int .u8 0, .int .u8 0, .int .u8 255, .int .u8 255, .int .u8 x, .int .u8 y, .int .u8 z, .int .u8 u] 30) := ⟨_, rfl⟩
  have N3 : Hid (Nw w w3) := hw3 ▸ N2.out.alloc _
  have B3 : Hid (w3.heap[w2.heap.size]? = some (.cells #[.int .u8 0, .int .u8 0, .int .u8 0, .int .u8 0, .int .u8 0, .int .u8 0, .int .u8 0, .int .u8 0, .int .u8 0, .int .u8 0, .int .u8 255, .int .u8 255, .int .u8 x, .int .u8 y, .int .u8 z, .int .u8 u] 30 (0, 0))) := hw3 ▸ blk_new rfl
  have B0'' : Hid (w3.heap[w.heap.size]? = some (.cells #[.int .u64 n, .int .i64 s, .pointer none] 55 (0, 0))) := hw3 ▸ blk_alloc B0'.out _
  have B2'' : Hid (w3.heap[w.heap.size + 1 + 1]? = some (.cells #[.int .i64 0, .bool false, .int .u64 0, .int .i64 0, .pointer none, .bool false, .bool false] 65 (0, 0))) := hw3 ▸ blk_alloc B2'.out _
  have k2 := fun (w' : World) (h : Nw w3 w') (i : Nat) => blk_cell (blk_nw B3.out h) i
  rw [← hw3]
  generalize w2.heap.size = bk at B3 k2 ⊢
  clear hw3 B0' B2' N2
  refine wp_region_nw (by kernel_rfl) ?_
  repeat (
    refine wpQuiet_step (fun K hK => ?_)
    rw [if_pos (by rfl)]
    apply Exists.intro
    refine ⟨fun w' h' => ?_, hK _ ?_⟩
    (have q2 := k2 w' h'
     have HN : Hid (Nw w3 w') := h'
     go_simp
     first
       | done
       | (go_at_call 20; exact (HC.out _ (N3.out.trans HN.out)).mono fun e w'' h => ⟨h.1, HN.out.trans h.2⟩)
       | with_reducible rfl)
    clear hK K
    try (simp only [Act.put]))
  refine wpQuiet_nil ?_
  intro w4 h4
  have N4 : Hid (Nw w w4) := N3.out.trans h4
  have C0 : Hid (w4.heap[w.heap.size]? = some (.cells #[.int .u64 n, .int .i64 s, .pointer none] 55 (0, 0))) := blk_nw B0''.out h4
  have C2 : Hid (w4.heap[w.heap.size + 1 + 1]? = some (.cells #[.int .i64 0, .bool false, .int .u64 0, .int .i64 0, .pointer none, .bool false, .bool false] 65 (0, 0))) := blk_nw B2''.out h4
  have C3 : Hid (w4.heap[bk]? = some (.cells #[.int .u8 0, .int .u8 0, .int .u8 0, .int .u8 0, .int .u8 0, .int .u8 0, .int .u8 0, .int .u8 0, .int .u8 0, .int .u8 0, .int .u8 255, .int .u8 255, .int .u8 x, .int .u8 y, .int .u8 z, .int .u8 u] 30 (0, 0))) := blk_nw B3.out h4
  clear k2 h4 B0'' B2'' B3 N3
  go_simp
  go_wp2_with fail
  have k2 := fun (w' : World) (h : Nw w4 w') (i : Nat) => blk_cell (blk_nw C3.out h) i
  refine wp_region_nw (by kernel_rfl) ?_
  repeat (
    refine wpQuiet_step (fun K hK => ?_)
    rw [if_pos (by rfl)]
    apply Exists.intro
    refine ⟨fun w' h' => ?_, hK _ ?_⟩
    (have q2 := k2 w' h'
     have HN : Hid (Nw w4 w') := h'
     go_simp
     first
       | done
       | (go_at_call 24; exact (HG.out _ (N4.out.trans HN.out)).mono fun e w'' h => ⟨h.1, HN.out.trans h.2⟩)
       | with_reducible rfl)
    clear hK K
    try (simp only [Act.put]))
  refine wpQuiet_nil ?_
  intro w5 h5
  have N5 : Hid (Nw w w5) := N4.out.trans h5
  have D0 : Hid (w5.heap[w.heap.size]? = some (.cells #[.int .u64 n, .int .i64 s, .pointer none] 55 (0, 0))) := blk_nw C0.out h5
  have D2 : Hid (w5.heap[w.heap.size + 1 + 1]? = some (.cells #[.int .i64 0, .bool false, .int .u64 0, .int .i64 0, .pointer none, .bool false, .bool false] 65 (0, 0))) := blk_nw C2.out h5
  clear k2 h5 C0 C2 C3 N4
  have k0 := blk_cell D0.out
  go_simp
  go_wp2_with fail
  refine (HT.out _ N5.out).mono ?_
  rintro e w6 ⟨rfl, hb⟩
  have N6 : Hid (Nw w w6) := N5.out.trans hb
  have E2 : Hid (w6.heap[w.heap.size + 1 + 1]? = some (.cells #[.int .i64 0, .bool false, .int .u64 0, .int .i64 0, .pointer none, .bool false, .bool false] 65 (0, 0))) := blk_nw D2.out hb
  clear hb k0 D0 D2 N5
  have k0 := blk_cell E2.out
  have f0 := blk_free E2.out
  have hle : w.heap.size ≤ w.heap.size + 1 + 1 := by omega
  cases r
  · obtain ⟨rfl, rfl⟩ := HF.out rfl
    go_wp2_with fail
    refine bodyPost_ret (v := .agg #[.int .i64 0, .bool false, .int .u64 0, .int .i64 0, .pointer none, .bool false, .bool false]) (by simp [results, Ybaz.results8, go_sem, k0]) rfl ⟨rfl, ?_⟩
    exact ((((((N6.out.set hle _).set hle _).set hle _).set hle _).set hle _).set hle _).set hle _
  · obtain ⟨rfl, d0, d1, d2⟩ := HR.out rfl
    have e0 := N6.out.keep d0
    have e1 := N6.out.keep d1
    have e2 := N6.out.keep d2
    go_wp2_with fail
    refine bodyPost_ret (v := .agg #[.int .i64 0, .bool true, .int .u64 m, .int .i64 t, .pointer none, .bool false, .bool false]) (by simp [results, Ybaz.results8, go_sem, k0]) rfl ⟨rfl, ?_⟩
    exact ((((((N6.out.set hle _).set hle _).set hle _).set hle _).set hle _).set hle _).set hle _
end Go.Proofs.YbulkcbheGreatDoor
