import Derived.Test.YbulkcbheGreatDoorLisS
import Derived.Deep.RegionHeld3
import Derived.Deep.Cut
namespace Go.Proofs.YbulkcbheGreatDoor
open Go.RowKit
set_option linter.unusedVariables false
set_option linter.unusedSimpArgs false

set_option maxRecDepth 100000 in
set_option maxHeartbeats 3200000 in
theorem lawLists (a b c d : Int) (us ub : Bool) (sl sh bl bh un at' : Int) (p4 : Addr) (w : World) (hz : Zs w p4) (ha0 : 0 ≤ a) (ha : a ≤ 255) (hb0 : 0 ≤ b) (hb : b ≤ 255) (hc0 : 0 ≤ c) (hc : c ≤ 255) (hd0 : 0 ≤ d) (hd : d ≤ 255)
    (q0 : 0 ≤ sl) (q1 : sl < 4294967296) (q2 : 0 ≤ sh) (q3 : sh < 4294967296) (q4 : 0 ≤ bl) (q5 : bl < 4294967296) (q6 : 0 ≤ bh) (q7 : bh < 4294967296)
    (hu0 : -2147483648 ≤ un) (hu1 : un ≤ 2147483647) (ht0 : -2147483648 ≤ at') (ht1 : at' ≤ 2147483647) :
    Calls Ybaz.prog 5 #[.int .u8 a, .int .u8 b, .int .u8 c, .int .u8 d, .bool us, .bool ub, .int .u32 sl, .int .u32 sh, .int .u32 bl, .int .u32 bh, .int .i32 un, .int .i32 at'] w fun e w' => e = .returned (.bool true) ∧ Nw w w' := by
  have HZ : Hid (Zs w p4) := hz
  clear hz
  go_enter Ybaz.func5, Ybaz.ntmps5
  go_wp2_with fail
  refine (engine_any 0 1000000000 _ (by omega) (by omega)).mono ?_
  rintro e w1 ⟨be, n0, s0, bm1, l0, l1, bm2, l2, rfl, gbe, g1, g2, g3, hn0, hn1, hns, hE, hM1, hM2, hNw⟩
  have HG : Hid (w.heap.size ≤ be ∧ w.heap.size ≤ bm1 ∧ bm1 < bm2 ∧ bm2 < be) := ⟨gbe, g1, g2, g3⟩
  have HT0 : Hid (0 ≤ n0 ∧ n0 < 1000000000 ∧ s0 * 1000000000 + n0 = 0) := ⟨hn0, hn1, hns⟩
  have E1 : Hid ((w1.heap[be]? = some (.cells (engc 1000000000 n0 s0 bm1 l0 l1 bm2 l2 (.pointer none) (.pointer none)) 63 (0, 0)) ∧ w1.heap[bm1]? = some (.map #[] 0) ∧ w1.heap[bm2]? = some (.map #[] 0)) ∧ Nw w w1) := ⟨⟨hE, hM1, hM2⟩, hNw⟩
  clear gbe g1 g2 g3 hn0 hn1 hns hE hM1 hM2 hNw
  have CL : Hid (∀ (lo hi : Int) (w : World), 0 ≤ lo → lo < 4294967296 → 0 ≤ hi → hi < 4294967296 → Calls Ybaz.prog 13 #[.int .u32 lo, .int .u32 hi] w fun e w' => ∃ oa, e = .returned (.pointer oa) ∧ LP w' oa true lo hi ∧ Nw w w') := fun lo hi w h0 h1 h2 h3 => (clist_any lo hi w h0 h1 h2 h3).mono fun e w' h => by
    obtain ⟨bl, br, bi, he, _, e1, e2, e3, hn⟩ := h
    exact ⟨_, he, .inr ⟨rfl, bl, br, bi, rfl, e1, e2, e3⟩, hn⟩
  go_upto_if 35 with fail
  go_cut [26] from 34 (fun s26 wx => ∃ oa, s26 = .pointer oa ∧ Hid (LP wx oa us sl sh ∧ (wx.heap[be]? = some (.cells (engc 1000000000 n0 s0 bm1 l0 l1 bm2 l2 (.pointer none) (.pointer none)) 63 (0, 0)) ∧ wx.heap[bm1]? = some (.map #[] 0) ∧ wx.heap[bm2]? = some (.map #[] 0)) ∧ Nw w wx))
  case first =>
    cases us
    · go_wp2_with fail
      go_meet
      case rel => exact ⟨none, rfl, .inl ⟨rfl, rfl⟩, E1.out⟩
    · go_wp2_with fail
      refine (CL.out sl sh _ q0 q1 q2 q3).mono ?_
      rintro e w2 ⟨oa, rfl, hl, hn⟩
      have H2 : Hid (LP w2 oa true sl sh ∧ (w2.heap[be]? = some (.cells (engc 1000000000 n0 s0 bm1 l0 l1 bm2 l2 (.pointer none) (.pointer none)) 63 (0, 0)) ∧ w2.heap[bm1]? = some (.map #[] 0) ∧ w2.heap[bm2]? = some (.map #[] 0)) ∧ Nw w w2) := ⟨hl, ⟨blk_nw E1.out.1.1 hn, blk_nw E1.out.1.2.1 hn, blk_nw E1.out.1.2.2 hn⟩, E1.out.2.trans hn⟩
      clear hl hn
      go_wp2_with fail
      go_meet
      case rel => exact ⟨oa, rfl, H2.out⟩
  case rest =>
    obtain ⟨oa, rfl, H2⟩ := hcut
    obtain ⟨w2, hw2⟩ : ∃ w2, w2 = wc := ⟨wc, rfl⟩
    subst hw2
    clear E1
    go_upto_if 39 with fail
    go_cut [27] from 34 (fun s27 wx => ∃ ob, s27 = .pointer ob ∧ Hid (LP wx oa us sl sh ∧ LP wx ob ub bl bh ∧ (wx.heap[be]? = some (.cells (engc 1000000000 n0 s0 bm1 l0 l1 bm2 l2 (.pointer none) (.pointer none)) 63 (0, 0)) ∧ wx.heap[bm1]? = some (.map #[] 0) ∧ wx.heap[bm2]? = some (.map #[] 0)) ∧ Nw w wx))
    case first =>
      cases ub
      · go_wp2_with fail
        go_meet
        case rel => exact ⟨none, rfl, H2.out.1, .inl ⟨rfl, rfl⟩, H2.out.2⟩
      · go_wp2_with fail
        refine (CL.out bl bh _ q4 q5 q6 q7).mono ?_
        rintro e w3 ⟨ob, rfl, hl, hn⟩
        have H3 : Hid (LP w3 oa us sl sh ∧ LP w3 ob true bl bh ∧ (w3.heap[be]? = some (.cells (engc 1000000000 n0 s0 bm1 l0 l1 bm2 l2 (.pointer none) (.pointer none)) 63 (0, 0)) ∧ w3.heap[bm1]? = some (.map #[] 0) ∧ w3.heap[bm2]? = some (.map #[] 0)) ∧ Nw w w3) := ⟨H2.out.1.nw hn, hl, ⟨blk_nw H2.out.2.1.1 hn, blk_nw H2.out.2.1.2.1 hn, blk_nw H2.out.2.1.2.2 hn⟩, H2.out.2.2.trans hn⟩
        clear hl hn
        go_wp2_with fail
        go_meet
        case rel => exact ⟨ob, rfl, H3.out⟩
    case rest =>
      obtain ⟨ob, rfl, H3⟩ := hcut
      clear H2 CL
      have z0 := blk_cell H3.out.2.2.1.1
      have z1 := blk_free H3.out.2.2.1.1
      go_wp2_with fail
      refine (setLists_any be oa ob _ (by rw [z0]; rfl) (by rw [z0]; rfl) (z1 _) (z1 _)).mono ?_
      rintro e w4 ⟨rfl, hw4⟩
      have H4 : Hid (LP w4 oa us sl sh ∧ LP w4 ob ub bl bh ∧ (w4.heap[be]? = some (.cells (engc 1000000000 n0 s0 bm1 l0 l1 bm2 l2 (.pointer oa) (.pointer ob)) 63 (0, 0)) ∧ w4.heap[bm1]? = some (.map #[] 0) ∧ w4.heap[bm2]? = some (.map #[] 0)) ∧ Nw w w4) := by
        subst hw4
        obtain ⟨r1, r2, r3, r4⟩ := H3.out
        have kp : ∀ (k : Nat) (o : Obj), k ≠ be → wc.heap[k]? = some o → ((wc.setCell ⟨be, 32, none⟩ (.pointer oa)).setCell ⟨be, 33, none⟩ (.pointer ob)).heap[k]? = some o := fun k o hk ho => blk_set_other (blk_set_other ho _ _ hk) _ _ hk
        have kl : ∀ (b : Nat) (cs : Array Value) (ty : TypeId), ty = 114 ∨ ty = 108 ∨ ty = 22 → wc.heap[b]? = some (.cells cs ty (0, 0)) → ((wc.setCell ⟨be, 32, none⟩ (.pointer oa)).setCell ⟨be, 33, none⟩ (.pointer ob)).heap[b]? = some (.cells cs ty (0, 0)) := fun b cs ty ht ho => kp b _ (fun h => by
          rw [h, r3.1] at ho
          rcases ht with rfl | rfl | rfl <;> cases ho) ho
        refine ⟨r1.blk kl, r2.blk kl, ⟨blk_set (blk_set r3.1 32 _) 33 _, kp _ _ (fun h => by have := r3.2.1; rw [h, r3.1] at this; cases this) r3.2.1, kp _ _ (fun h => by have := r3.2.2; rw [h, r3.1] at this; cases this) r3.2.2⟩, (r4.set HG.out.1 _).set HG.out.1 _⟩
      clear hw4 H3 z0 z1
      go_wp2_with fail
      refine (ckey_any a b c d _).mono ?_
      rintro e w5 ⟨rfl, hb5⟩
      have H5 : Hid (LP w5 oa us sl sh ∧ LP w5 ob ub bl bh ∧ (w5.heap[be]? = some (.cells (engc 1000000000 n0 s0 bm1 l0 l1 bm2 l2 (.pointer oa) (.pointer ob)) 63 (0, 0)) ∧ w5.heap[bm1]? = some (.map #[] 0) ∧ w5.heap[bm2]? = some (.map #[] 0)) ∧ Nw w w5) := ⟨H4.out.1.nw hb5, H4.out.2.1.nw hb5, ⟨blk_nw H4.out.2.2.1.1 hb5, blk_nw H4.out.2.2.1.2.1 hb5, blk_nw H4.out.2.2.1.2.2 hb5⟩, H4.out.2.2.2.trans hb5⟩
      clear hb5 H4
      unfold kc
      go_wp2_with fail
      refine (add_any 0 0 un _ (by omega) (by omega) (by omega) (by omega) (by omega) (by omega)).mono ?_
      rintro e w7 ⟨n1, s1, rfl, hn0, hn1, hns, hb7⟩
      have HT1 : Hid (0 ≤ n1 ∧ n1 < 1000000000 ∧ s1 * 1000000000 + n1 = un) := ⟨hn0, hn1, by omega⟩
      have HK7 : Hid (w7.heap[w5.heap.size]? = some (.cells (kc a b c d) 30 (0, 0))) := blk_nw (blk_new rfl) hb7
      have H7 : Hid (LP w7 oa us sl sh ∧ LP w7 ob ub bl bh ∧ (w7.heap[be]? = some (.cells (engc 1000000000 n0 s0 bm1 l0 l1 bm2 l2 (.pointer oa) (.pointer ob)) 63 (0, 0)) ∧ w7.heap[bm1]? = some (.map #[] 0) ∧ w7.heap[bm2]? = some (.map #[] 0)) ∧ Nw w w7) := by
        have hn := ((Nw.refl w5).alloc _).trans hb7
        exact ⟨H5.out.1.nw hn, H5.out.2.1.nw hn, ⟨blk_nw H5.out.2.2.1.1 hn, blk_nw H5.out.2.2.1.2.1 hn, blk_nw H5.out.2.2.1.2.2 hn⟩, H5.out.2.2.2.trans hn⟩
      clear hb7 hn0 hn1 hns H5
      generalize w5.heap.size = bk at HK7 ⊢
      go_wp2_with fail
      obtain ⟨w8, hw8⟩ : ∃ w8, w8 = w7.alloc (.cells #[.int .u64 n1, .int .i64 s1, .pointer none] 55) := ⟨_, rfl⟩
      have HK8 : Hid (w8.heap[bk]? = some (.cells (kc a b c d) 30 (0, 0))) := hw8 ▸ blk_alloc HK7.out _
      have HU8 : Hid (w8.heap[w7.heap.size]? = some (.cells #[.int .u64 n1, .int .i64 s1, .pointer none] 55 (0, 0))) := hw8 ▸ blk_new rfl
      have H8 : Hid (LP w8 oa us sl sh ∧ LP w8 ob ub bl bh ∧ (w8.heap[be]? = some (.cells (engc 1000000000 n0 s0 bm1 l0 l1 bm2 l2 (.pointer oa) (.pointer ob)) 63 (0, 0)) ∧ w8.heap[bm1]? = some (.map #[] 0) ∧ w8.heap[bm2]? = some (.map #[] 0)) ∧ Nw w w8) := hw8 ▸ ⟨H7.out.1.nw ((Nw.refl _).alloc _), H7.out.2.1.nw ((Nw.refl _).alloc _), ⟨blk_alloc H7.out.2.2.1.1 _, blk_alloc H7.out.2.2.1.2.1 _, blk_alloc H7.out.2.2.1.2.2 _⟩, H7.out.2.2.2.alloc _⟩
      rw [← hw8]
      generalize w7.heap.size = bt at HU8 ⊢
      clear hw8 HK7 H7
      have d1 : bk ≠ bm2 := fun h => by have h1 := HK8.out; rw [h, H8.out.2.2.1.2.2] at h1; cases h1
      have d2 : bt ≠ bm2 := fun h => by have h1 := HU8.out; rw [h, H8.out.2.2.1.2.2] at h1; cases h1
      have d3 : be ≠ bm2 := fun h => by have h1 := H8.out.2.2.1.1; rw [h, H8.out.2.2.1.2.2] at h1; cases h1
      have HUP : Hid ((Instr.mapUpdate 56 (.map (some bm2)) (.agg (kc a b c d)) (.pointer (some ⟨w8.heap.size, 0, none⟩))).run Ybaz.prog ((w8.alloc (.cells (banc a b c d n1 s1) 81)).drew) = .ok () (putMap ((w8.alloc (.cells (banc a b c d n1 s1) 81)).drew) bm2 (.map #[⟨.agg (kc a b c d), .pointer (some ⟨w8.heap.size, 0, none⟩), 0⟩] 1))) := upd56p bm2 a b c d _ _ (blk_drew (blk_alloc H8.out.2.2.1.2.2 _))
      refine wp_region_held_drew (S := fun wx => wx.heap[bk]? = some (.cells (kc a b c d) 30 (0, 0)) ∧ wx.heap[bt]? = some (.cells #[.int .u64 n1, .int .i64 s1, .pointer none] 55 (0, 0)) ∧ wx.heap[be]? = some (.cells (engc 1000000000 n0 s0 bm1 l0 l1 bm2 l2 (.pointer oa) (.pointer ob)) 63 (0, 0))) mixed ⟨blk_drew HK8.out, blk_drew HU8.out, blk_drew H8.out.2.2.1.1⟩ (fun hHeld => ?_)
      have HH : Hid (w8.drew.heap[bk]? = some (.cells (kc a b c d) 30 (0, 0)) ∧ w8.drew.heap[bt]? = some (.cells #[.int .u64 n1, .int .i64 s1, .pointer none] 55 (0, 0)) ∧ w8.drew.heap[be]? = some (.cells (engc 1000000000 n0 s0 bm1 l0 l1 bm2 l2 (.pointer oa) (.pointer ob)) 63 (0, 0))) := hHeld
      clear hHeld
      refine wpAnyH_take (i := 0) (v := .pointer (some ⟨be, 0, none⟩)) rfl (by kernel_rfl) (by kernel_rfl) (by kernel_rfl) (fun _ _ _ h => h) (Or.inl ⟨by rfl, fun wx hx => ?_⟩) HH.out ?_
      · have q0 := blk_cell hx.1
        have q1 := blk_cell hx.2.1
        have q2 := blk_cell hx.2.2 28
        unfold kc at q0
        unfold engc at q2
        clear hx
        go_simp
      simp only [Act.put, List.setIfInBounds_toArray, List.set_cons_zero, List.set_cons_succ]
      refine wpAnyH_take (i := 1) (v := .pointer (some ⟨be, 0, none⟩)) rfl (by kernel_rfl) (by kernel_rfl) (by kernel_rfl) (fun _ _ _ h => h) (Or.inl ⟨by rfl, fun wx hx => ?_⟩) HH.out ?_
      · have q0 := blk_cell hx.1
        have q1 := blk_cell hx.2.1
        have q2 := blk_cell hx.2.2 28
        unfold kc at q0
        unfold engc at q2
        clear hx
        go_simp
      simp only [Act.put, List.setIfInBounds_toArray, List.set_cons_zero, List.set_cons_succ]
      refine wpAnyH_take (i := 2) (v := .pointer (some ⟨be, 28, none⟩)) rfl (by kernel_rfl) (by kernel_rfl) (by kernel_rfl) (fun _ _ _ h => h) (Or.inl ⟨by rfl, fun wx hx => ?_⟩) HH.out ?_
      · have q0 := blk_cell hx.1
        have q1 := blk_cell hx.2.1
        have q2 := blk_cell hx.2.2 28
        unfold kc at q0
        unfold engc at q2
        clear hx
        go_simp
      simp only [Act.put, List.setIfInBounds_toArray, List.set_cons_zero, List.set_cons_succ]
      refine wpAnyH_take (i := 3) (v := .pointer (some ⟨be, 28, none⟩)) rfl (by kernel_rfl) (by kernel_rfl) (by kernel_rfl) (fun _ _ _ h => h) (Or.inl ⟨by rfl, fun wx hx => ?_⟩) HH.out ?_
      · have q0 := blk_cell hx.1
        have q1 := blk_cell hx.2.1
        have q2 := blk_cell hx.2.2 28
        unfold kc at q0
        unfold engc at q2
        clear hx
        go_simp
      simp only [Act.put, List.setIfInBounds_toArray, List.set_cons_zero, List.set_cons_succ]
      refine wpAnyH_take (i := 4) (v := .map (some bm2)) rfl (by kernel_rfl) (by kernel_rfl) (by kernel_rfl) (fun _ _ _ h => h) (Or.inl ⟨by rfl, fun wx hx => ?_⟩) HH.out ?_
      · have q0 := blk_cell hx.1
        have q1 := blk_cell hx.2.1
        have q2 := blk_cell hx.2.2 28
        unfold kc at q0
        unfold engc at q2
        clear hx
        go_simp
      simp only [Act.put, List.setIfInBounds_toArray, List.set_cons_zero, List.set_cons_succ]
      refine wpAnyH_take (i := 5) (v := .agg #[.int .u8 0, .int .u8 0, .int .u8 0, .int .u8 0, .int .u8 0, .int .u8 0, .int .u8 0, .int .u8 0, .int .u8 0, .int .u8 0, .int .u8 255, .int .u8 255, .int .u8 a, .int .u8 b, .int .u8 c, .int .u8 d]) rfl (by kernel_rfl) (by kernel_rfl) (by kernel_rfl) (fun _ _ _ h => h) (Or.inl ⟨by rfl, fun wx hx => ?_⟩) HH.out ?_
      · have q0 := blk_cell hx.1
        have q1 := blk_cell hx.2.1
        have q2 := blk_cell hx.2.2 28
        unfold kc at q0
        unfold engc at q2
        clear hx
        go_simp
      simp only [Act.put, List.setIfInBounds_toArray, List.set_cons_zero, List.set_cons_succ]
      refine wpAnyH_take (i := 6) (v := .agg #[.int .u8 0, .int .u8 0, .int .u8 0, .int .u8 0, .int .u8 0, .int .u8 0, .int .u8 0, .int .u8 0, .int .u8 0, .int .u8 0, .int .u8 255, .int .u8 255, .int .u8 a, .int .u8 b, .int .u8 c, .int .u8 d]) rfl (by kernel_rfl) (by kernel_rfl) (by kernel_rfl) (fun _ _ _ h => h) (Or.inl ⟨by rfl, fun wx hx => ?_⟩) HH.out ?_
      · have q0 := blk_cell hx.1
        have q1 := blk_cell hx.2.1
        have q2 := blk_cell hx.2.2 28
        unfold kc at q0
        unfold engc at q2
        clear hx
        go_simp
      simp only [Act.put, List.setIfInBounds_toArray, List.set_cons_zero, List.set_cons_succ]
      refine wpAnyH_take (i := 7) (v := .agg #[.int .u8 0, .int .u8 0, .int .u8 0, .int .u8 0, .int .u8 0, .int .u8 0, .int .u8 0, .int .u8 0, .int .u8 0, .int .u8 0, .int .u8 255, .int .u8 255, .int .u8 a, .int .u8 b, .int .u8 c, .int .u8 d]) rfl (by kernel_rfl) (by kernel_rfl) (by kernel_rfl) (fun _ _ _ h => h) (Or.inl ⟨by rfl, fun wx hx => ?_⟩) HH.out ?_
      · have q0 := blk_cell hx.1
        have q1 := blk_cell hx.2.1
        have q2 := blk_cell hx.2.2 28
        unfold kc at q0
        unfold engc at q2
        clear hx
        go_simp
      simp only [Act.put, List.setIfInBounds_toArray, List.set_cons_zero, List.set_cons_succ]
      refine wpAnyH_take (i := 8) (v := .agg #[.int .u64 n1, .int .i64 s1, .pointer none]) rfl (by kernel_rfl) (by kernel_rfl) (by kernel_rfl) (fun _ _ _ h => h) (Or.inl ⟨by rfl, fun wx hx => ?_⟩) HH.out ?_
      · have q0 := blk_cell hx.1
        have q1 := blk_cell hx.2.1
        have q2 := blk_cell hx.2.2 28
        unfold kc at q0
        unfold engc at q2
        clear hx
        go_simp
      simp only [Act.put, List.setIfInBounds_toArray, List.set_cons_zero, List.set_cons_succ]
      refine wpAnyH_take (i := 9) (v := .agg #[.int .u8 0, .int .u8 0, .int .u8 0, .int .u8 0, .int .u8 0, .int .u8 0, .int .u8 0, .int .u8 0, .int .u8 0, .int .u8 0, .int .u8 255, .int .u8 255, .int .u8 a, .int .u8 b, .int .u8 c, .int .u8 d, .int .u64 n1, .int .i64 s1, .pointer none, .int .i64 1000000000]) rfl (by kernel_rfl) (by kernel_rfl) (by kernel_rfl) (fun _ _ _ h => h) (Or.inl ⟨by rfl, fun wx hx => ?_⟩) HH.out ?_
      · have q0 := blk_cell hx.1
        have q1 := blk_cell hx.2.1
        have q2 := blk_cell hx.2.2 28
        unfold kc at q0
        unfold engc at q2
        clear hx
        go_simp
      simp only [Act.put, List.setIfInBounds_toArray, List.set_cons_zero, List.set_cons_succ]
      refine wpAnyH_ready (rs := [10]) (by kernel_rfl) (by simp) ?_
      refine AllReadyH.cons rfl (fun K hK => ?_) AllReadyH.nil
      go_simp
      refine hK.out _ _ ⟨blk_alloc HH.out.1 _, blk_alloc HH.out.2.1 _, blk_alloc HH.out.2.2 _⟩ (fun hHeld => ?_)
      clear hK K hHeld
      refine wpAnyH_ready (rs := [11]) (by kernel_rfl) (by simp) ?_
      refine AllReadyH.cons rfl (fun K hK => ?_) AllReadyH.nil
      have hup := HUP.out
      unfold kc banc at hup
      go_simp
      refine hK.out _ _ ⟨putMap_blk _ d1 (blk_alloc HH.out.1 _), putMap_blk _ d2 (blk_alloc HH.out.2.1 _), putMap_blk _ d3 (blk_alloc HH.out.2.2 _)⟩ (fun hHeld => ?_)
      clear hK K hHeld hup
      refine wpAnyH_done (by kernel_rfl) ?_ _
      obtain ⟨w9, hw9⟩ : ∃ w9, w9 = putMap ((w8.alloc (.cells (banc a b c d n1 s1) 81)).drew) bm2 (.map #[⟨.agg (kc a b c d), .pointer (some ⟨w8.heap.size, 0, none⟩), 0⟩] 1) := ⟨_, rfl⟩
      have HM2 : Hid (w9.heap[bm2]? = some (.map #[⟨.agg (kc a b c d), .pointer (some ⟨w8.heap.size, 0, none⟩), 0⟩] 1)) := hw9 ▸ putMap_same (blk_drew (blk_alloc H8.out.2.2.1.2.2 _))
      have HBb : Hid (w9.heap[w8.heap.size]? = some (.cells (banc a b c d n1 s1) 81 (0, 0))) := hw9 ▸ putMap_blk _ (Nat.ne_of_gt (lt_of_block H8.out.2.2.1.2.2)) (blk_drew (blk_new rfl))
      have HU9 : Hid (w9.heap[bt]? = some (.cells #[.int .u64 n1, .int .i64 s1, .pointer none] 55 (0, 0))) := hw9 ▸ putMap_blk _ d2 (blk_alloc HH.out.2.1 _)
      have H9 : Hid (LP w9 oa us sl sh ∧ LP w9 ob ub bl bh ∧ w9.heap[be]? = some (.cells (engc 1000000000 n0 s0 bm1 l0 l1 bm2 l2 (.pointer oa) (.pointer ob)) 63 (0, 0)) ∧ w9.heap[bm1]? = some (.map #[] 0) ∧ Nw w w9) := by
        subst hw9
        have kl : ∀ (b' : Nat) (cs : Array Value) (ty : TypeId), ty = 114 ∨ ty = 108 ∨ ty = 22 → w8.heap[b']? = some (.cells cs ty (0, 0)) → (putMap ((w8.alloc (.cells (banc a b c d n1 s1) 81)).drew) bm2 (.map #[⟨.agg (kc a b c d), .pointer (some ⟨w8.heap.size, 0, none⟩), 0⟩] 1)).heap[b']? = some (.cells cs ty (0, 0)) := fun b' cs ty ht ho => putMap_blk _ (fun h => by rw [h, H8.out.2.2.1.2.2] at ho; cases ho) (blk_drew (blk_alloc ho _))
        exact ⟨H8.out.1.blk kl, H8.out.2.1.blk kl, putMap_blk _ d3 (blk_alloc HH.out.2.2 _), putMap_blk _ (Nat.ne_of_lt HG.out.2.2.1) (blk_drew (blk_alloc H8.out.2.2.1.2.1 _)), putMap_nw ((H8.out.2.2.2.alloc _).drew) (by have := HG.out; omega) _⟩
      unfold kc banc at hw9
      simp only [← hw9]
      generalize w8.heap.size = bb at HM2 HBb ⊢
      clear hw9 HUP HH H8 HU8 HK8 d1 d2 d3
      obtain ⟨h, hh⟩ : ∃ h, h = a * 16777216 + b * 65536 + c * 256 + d := ⟨_, rfl⟩
      have HHH : Hid (h = a * 16777216 + b * 65536 + c * 256 + d) := hh
      obtain ⟨L1, hL1⟩ : ∃ L1, L1 = a * 16777216 + b * 65536 := ⟨_, rfl⟩
      obtain ⟨L2, hL2⟩ : ∃ L2, L2 = L1 + c * 256 := ⟨_, rfl⟩
      have o1 : bits .or .u32 (a * 16777216) (b * 65536) = L1 := by rw [hL1]; exact or_up32 24 _ _ (by omega) (by omega) (by omega) (by omega) (by omega) (by omega)
      have o2 : bits .or .u32 L1 (c * 256) = L2 := by rw [hL2]; exact or_up32 16 _ _ (by omega) (by omega) (by omega) (by omega) (by omega) (by omega)
      have o3 : bits .or .u32 L2 d = h := by rw [hh, show a * 16777216 + b * 65536 + c * 256 + d = L2 + d by omega]; exact or_up32 8 _ _ (by omega) (by omega) (by omega) (by omega) (by omega) (by omega)
      clear hL1 hL2 hh
      go_simp
      go_upto_region 12 with fail
      obtain ⟨rs, hrs⟩ : ∃ rs, rs = decide (mn sl sh ≤ h ∧ h ≤ mx sl sh) := ⟨_, rfl⟩
      obtain ⟨rb, hrb⟩ : ∃ rb, rb = decide (mn bl bh ≤ h ∧ h ≤ mx bl bh) := ⟨_, rfl⟩
      have CI1 : Hid (∀ w, Calls Ybaz.prog 15 #[.int .u32 h, .int .u32 sl, .int .u32 sh] w fun e w' => e = .returned (.bool rs) ∧ Nw w w') := fun w => by rw [hrs]; exact cin_any h sl sh w
      have CI2 : Hid (∀ w, Calls Ybaz.prog 15 #[.int .u32 h, .int .u32 bl, .int .u32 bh] w fun e w' => e = .returned (.bool rb) ∧ Nw w w') := fun w => by rw [hrb]; exact cin_any h bl bh w
      have HRS : Hid (rs = decide (mn sl sh ≤ h ∧ h ≤ mx sl sh) ∧ rb = decide (mn bl bh ≤ h ∧ h ≤ mx bl bh)) := ⟨hrs, hrb⟩
      clear hrs hrb o1 o2 o3
      go_cut [31] from 34 (fun s31 wx => s31 = .bool (us && rs) ∧ Hid (Nw w9 wx))
      case first =>
        cases us
        · go_wp2_with fail
          go_meet
          case rel => exact ⟨rfl, Nw.refl _⟩
        · go_wp2_with fail
          refine (CI1.out _).mono ?_
          rintro e w10 ⟨rfl, hb10⟩
          have F10 : Hid (Nw w9 w10) := hb10
          clear hb10
          go_wp2_with fail
          go_meet
          case rel => exact ⟨rfl, F10.out⟩
      case rest =>
        obtain ⟨rfl, F10⟩ := hcut
        obtain ⟨w10, hw10⟩ : ∃ w10, w10 = wc := ⟨wc, rfl⟩
        subst hw10
        go_upto_region 13 with fail
        go_cut [32] from 34 (fun s32 wx => s32 = .bool (ub && rb) ∧ Hid (Nw w9 wx))
        case first =>
          cases ub
          · go_wp2_with fail
            go_meet
            case rel => exact ⟨rfl, F10.out⟩
          · go_wp2_with fail
            refine (CI2.out _).mono ?_
            rintro e w11 ⟨rfl, hb11⟩
            have F11 : Hid (Nw w9 w11) := F10.out.trans hb11
            clear hb11
            go_wp2_with fail
            go_meet
            case rel => exact ⟨rfl, F11.out⟩
        case rest =>
          obtain ⟨rfl, F11⟩ := hcut
          clear F10 CI1 CI2
          go_wp2_with fail
          refine (add_any 0 0 at' _ (by omega) (by omega) (by omega) (by omega) (by omega) (by omega)).mono ?_
          rintro e w11 ⟨n2, s2, rfl, hn0, hn1, hns, hb11⟩
          have HT2 : Hid (0 ≤ n2 ∧ n2 < 1000000000 ∧ s2 * 1000000000 + n2 = at') := ⟨hn0, hn1, by omega⟩
          have F11' : Hid (Nw w9 w11) := F11.out.trans hb11
          clear hb11 hn0 hn1 hns F11
          go_wp2_with fail
          refine (addrFrom4_any a b c d p4 w11 (HZ.out.nw (H9.out.2.2.2.2.trans F11'.out)) ha0 ha hb0 hb hc0 hc hd0 hd).mono ?_
          rintro e w12 ⟨rfl, hb12⟩
          have F12 : Hid (Nw w9 w12) := F11'.out.trans hb12
          clear hb12 F11'
          obtain ⟨lo, hlo⟩ : ∃ lo, lo = 281470681743360 + a * 16777216 + b * 65536 + c * 256 + d := ⟨_, rfl⟩
          rw [← hlo]
          have CS : Hid (∀ w', Nw w12 w' → Calls Ybaz.prog 31 #[.pointer oa, .agg #[.int .u64 0, .int .u64 lo, .pointer (some p4)]] w' fun e w'' => e = .returned (.bool (us && rs)) ∧ Nw w' w'') := fun w' k => by
            rw [HRS.out.1]
            exact contains_LP oa us sl sh lo h a b c d p4 w' (HZ.out.nw ((H9.out.2.2.2.2.trans F12.out).trans k)) ha0 ha hb0 hb hc0 hc hd0 hd hlo HHH.out (H9.out.1.nw (F12.out.trans k))
          have CB : Hid (∀ w', Nw w12 w' → Calls Ybaz.prog 31 #[.pointer ob, .agg #[.int .u64 0, .int .u64 lo, .pointer (some p4)]] w' fun e w'' => e = .returned (.bool (ub && rb)) ∧ Nw w' w'') := fun w' k => by
            rw [HRS.out.2]
            exact contains_LP ob ub bl bh lo h a b c d p4 w' (HZ.out.nw ((H9.out.2.2.2.2.trans F12.out).trans k)) ha0 ha hb0 hb hc0 hc hd0 hd hlo HHH.out (H9.out.2.1.nw (F12.out.trans k))
          have HLO : Hid (lo = 281470681743360 + a * 16777216 + b * 65536 + c * 256 + d) := hlo
          clear hlo HRS HHH
          generalize (us && rs) = bs at CS ⊢
          generalize (ub && rb) = bq at CB ⊢
          have E12 := blk_cell (blk_nw H9.out.2.2.1 F12.out)
          have HL : Hid (∀ w', Nw w12 w' → Calls Ybaz.prog 18 #[.pointer (some ⟨be, 0, none⟩), .agg #[.int .u64 0, .int .u64 lo, .pointer (some p4)]] w' fun e w'' => e = .returned (.tuple #[.bool bs, .bool bq]) ∧ Nw w' w'') :=
            fun w' k => listed_any be lo p4 (.pointer oa) (.pointer ob) bs bq w' (blk_cell (blk_nw H9.out.2.2.1 (F12.out.trans k)) 32) (blk_cell (blk_nw H9.out.2.2.1 (F12.out.trans k)) 33) (fun w'' k2 => CS.out w'' (k.trans k2)) (fun w'' k2 => CB.out w'' (k.trans k2))
          clear E12
          go_wp2_with fail
          by_cases hor : (bs || bq) = true
          · refine (state_listed be n2 s2 lo p4 bs bq w12 hor HL).mono ?_
            rintro e w13 ⟨rfl, hb13⟩
            have F13 : Hid (Nw w w13) := (H9.out.2.2.2.2.trans F12.out).trans hb13
            clear hb13 CS CB HL H9 F12 HLO HZ HM2 HBb HU9 HT0 HT1 HT2 HG
            cases bs
            · cases bq
              · cases hor
              · clear hor
                go_wp2_with fail
                refine (isZero_zero _).mono ?_
                rintro e w14 ⟨rfl, hb14⟩
                have F14 : Hid (Nw w w14) := F13.out.trans (((Nw.refl _).alloc _).trans hb14)
                clear hb14
                go_wp2_with fail
                go_ret
                exact ⟨rfl, F14.out⟩
            · cases bq
              · clear hor
                go_wp2_with fail
                refine (isZero_zero _).mono ?_
                rintro e w14 ⟨rfl, hb14⟩
                have F14 : Hid (Nw w w14) := F13.out.trans (((Nw.refl _).alloc _).trans hb14)
                clear hb14
                go_wp2_with fail
                go_ret
                exact ⟨rfl, F14.out⟩
              · clear hor
                go_wp2_with fail
                refine (isZero_zero _).mono ?_
                rintro e w14 ⟨rfl, hb14⟩
                have F14 : Hid (Nw w w14) := F13.out.trans (((Nw.refl _).alloc _).trans hb14)
                clear hb14
                go_wp2_with fail
                go_ret
                exact ⟨rfl, F14.out⟩
          · obtain ⟨rfl, rfl⟩ : bs = false ∧ bq = false := by cases bs <;> cases bq <;> simp_all
            clear hor HL
            obtain ⟨r, hr⟩ : ∃ r, r = (decide (d = d) && (decide (s2 * 1000000000 + n2 < s1 * 1000000000 + n1) && decide (s0 * 1000000000 + n0 < s1 * 1000000000 + n1))) := ⟨_, rfl⟩
            refine (ban_state be bm1 bm2 bb l0 l1 l2 (.pointer oa) (.pointer ob) 1000000000 n0 s0 n1 s1 n2 s2 a b c d d lo p4 w12 (HZ.out.nw (H9.out.2.2.2.2.trans F12.out)) ha0 ha hb0 hb hc0 hc hd0 hd HLO.out HT0.out.1 HT0.out.2.1 HT1.out.1 HT1.out.2.1 HT2.out.1 HT2.out.2.1 (blk_nw H9.out.2.2.1 F12.out) (blk_nw H9.out.2.2.2.1 F12.out) (blk_nw HM2.out F12.out) (blk_nw HBb.out F12.out) CS.out CB.out r hr).mono ?_
            rintro e w13 ⟨rfl, hb13⟩
            have F13 : Hid (Nw w w13) := (H9.out.2.2.2.2.trans F12.out).trans hb13
            have HU13 : Hid (w13.heap[bt]? = some (.cells #[.int .u64 n1, .int .i64 s1, .pointer none] 55 (0, 0))) := blk_nw (blk_nw HU9.out F12.out) hb13
            rw [HT0.out.2.2, HT1.out.2.2, HT2.out.2.2] at hr
            simp only [decide_true, Bool.true_and] at hr
            clear hb13 CS CB H9 F12 HLO HZ HM2 HBb HU9 HG
            have ku := blk_cell HU13.out
            have hbt := lt_of_block HU13.out
            by_cases c1 : at' < un
            · by_cases c2 : 0 < un
              · obtain rfl : r = true := by rw [hr]; simp [c1, c2]
                clear hr
                go_wp2_with fail
                refine (equal_any n1 s1 n1 s1 _ HT1.out.1 HT1.out.2.1 HT1.out.1 HT1.out.2.1).mono ?_
                rintro e w14 ⟨rfl, hb14⟩
                have F14 : Hid (Nw w w14) := F13.out.trans (((Nw.refl _).alloc _).trans hb14)
                clear hb14
                simp only [decide_true]
                go_wp2_with fail
                go_ret
                exact ⟨rfl, F14.out⟩
              · obtain rfl : r = false := by rw [hr]; simp [c1, c2]
                clear hr
                go_wp2_with fail
                refine (isZero_zero _).mono ?_
                rintro e w14 ⟨rfl, hb14⟩
                have F14 : Hid (Nw w w14) := F13.out.trans (((Nw.refl _).alloc _).trans hb14)
                clear hb14
                go_wp2_with fail
                go_ret
                exact ⟨rfl, F14.out⟩
            · obtain rfl : r = false := by rw [hr]; simp [c1]
              clear hr
              go_wp2_with fail
              refine (isZero_zero _).mono ?_
              rintro e w14 ⟨rfl, hb14⟩
              have F14 : Hid (Nw w w14) := F13.out.trans (((Nw.refl _).alloc _).trans hb14)
              clear hb14
              go_wp2_with fail
              go_ret
              exact ⟨rfl, F14.out⟩
end Go.Proofs.YbulkcbheGreatDoor
