import Derived.Test.YbulkcbheGreatDoorBanS
import Derived.Deep.RegionHeld3
import Derived.Deep.Cut
namespace Go.Proofs.YbulkcbheGreatDoor
open Go.RowKit
set_option linter.unusedVariables false
set_option linter.unusedSimpArgs false

/-- The world with another object in a block. -/
def putMap (w : World) (bm : Nat) (o : Obj) : World := { w with heap := w.heap.setIfInBounds bm o }
theorem putMap_cell (w : World) (bm : Nat) (o : Obj) (b i : Nat) (h : b ≠ bm) : (putMap w bm o).cell? ⟨b, i, none⟩ = w.cell? ⟨b, i, none⟩ := by
  simp [putMap, World.cell?, Array.getElem?_setIfInBounds, Ne.symm h]
theorem putMap_range (w : World) (bm : Nat) (o : Obj) (b i : Nat) (cs : List Value) (h : b ≠ bm) : (putMap w bm o).rangeAt b i cs ↔ w.rangeAt b i cs := by
  unfold World.rangeAt; simp only [putMap_cell _ _ _ _ _ h]
theorem size30 : (Ybaz.prog.info? 30).map (·.size) = some 16 := by kernel_rfl
theorem range_kc {w : World} {b : Nat} {x y z u : Int} (h : w.heap[b]? = some (.cells (kc x y z u) 30 (0, 0))) : w.rangeAt b 0 (kc x y z u).toList := by
  intro j v hv
  rw [Nat.zero_add, blk_cell h]
  simpa using hv
theorem putMap_blk {w : World} {bm : Nat} (o : Obj) {b : Nat} {x : Option Obj} (h : b ≠ bm) (hx : w.heap[b]? = x) : (putMap w bm o).heap[b]? = x := by
  rw [← hx]; simp [putMap, Array.getElem?_setIfInBounds, Ne.symm h]
theorem putMap_same {w : World} {bm : Nat} {o x : Obj} (hx : w.heap[bm]? = some x) : (putMap w bm o).heap[bm]? = some o := by
  have := lt_of_block hx
  simp [putMap, Array.getElem?_setIfInBounds, this]
theorem putMap_nw {w a : World} (h : Nw w a) {bm : Nat} (hb : w.heap.size ≤ bm) (o : Obj) : Nw w (putMap a bm o) :=
  ⟨h.os, h.tape, h.output, by show _ ≤ (a.heap.setIfInBounds bm o).size; simp; exact h.size, fun k hk => putMap_blk o (by omega) (h.block k hk)⟩
theorem upd56p (bm : Nat) (x y z u : Int) (v : Value) (w : World) (h : w.heap[bm]? = some (.map #[] 0)) :
    (Instr.mapUpdate 56 (.map (some bm)) (.agg (kc x y z u)) v).run Ybaz.prog w = .ok () (putMap w bm (.map #[⟨.agg (kc x y z u), v, 0⟩] 1)) := upd56 bm x y z u v w h

theorem xor1_fin : ∀ k : Fin 256, bits .xor .u8 (k.val : Int) 1 ≠ (k.val : Int) := by decide +kernel
theorem xor1 (d : Int) (h0 : 0 ≤ d) (h1 : d ≤ 255) : bits .xor .u8 d 1 ≠ d := by
  obtain ⟨k, rfl⟩ := Int.eq_ofNat_of_zero_le h0
  exact xor1_fin ⟨k, by omega⟩

set_option maxRecDepth 100000 in
set_option maxHeartbeats 1600000 in
theorem lawBan (a b c d : Int) (other : Bool) (un nw at' : Int) (p4 : Addr) (w : World) (hz : Zs w p4) (ha0 : 0 ≤ a) (ha : a ≤ 255) (hb0 : 0 ≤ b) (hb : b ≤ 255) (hc0 : 0 ≤ c) (hc : c ≤ 255) (hd0 : 0 ≤ d) (hd : d ≤ 255)
    (hu0 : -2147483648 ≤ un) (hu1 : un ≤ 2147483647) (hw0 : -2147483648 ≤ nw) (hw1 : nw ≤ 2147483647) (ht0 : -2147483648 ≤ at') (ht1 : at' ≤ 2147483647) :
    Calls Ybaz.prog 4 #[.int .u8 a, .int .u8 b, .int .u8 c, .int .u8 d, .bool other, .int .i32 un, .int .i32 nw, .int .i32 at'] w fun e w' => e = .returned (.bool true) ∧ Nw w w' := by
  have HZ : Hid (Zs w p4) := hz
  clear hz
  go_enter Ybaz.func4, Ybaz.ntmps4
  go_wp2_with fail
  refine (engine_any nw 1000000000 _ hw0 hw1).mono ?_
  rintro e w1 ⟨be, n0, s0, bm1, l0, l1, bm2, l2, rfl, gbe, g1, g2, g3, hn0, hn1, hns, hE, hM1, hM2, hNw⟩
  have HG : Hid (w.heap.size ≤ be ∧ w.heap.size ≤ bm1 ∧ bm1 < bm2 ∧ bm2 < be) := ⟨gbe, g1, g2, g3⟩
  have HT0 : Hid (0 ≤ n0 ∧ n0 < 1000000000 ∧ s0 * 1000000000 + n0 = nw) := ⟨hn0, hn1, hns⟩
  have E1 : Hid (w1.heap[be]? = some (.cells (engc 1000000000 n0 s0 bm1 l0 l1 bm2 l2 (.pointer none) (.pointer none)) 63 (0, 0)) ∧ w1.heap[bm1]? = some (.map #[] 0) ∧ w1.heap[bm2]? = some (.map #[] 0)) := ⟨hE, hM1, hM2⟩
  have N1 : Hid (Nw w w1) := hNw
  clear gbe g1 g2 g3 hn0 hn1 hns hE hM1 hM2 hNw
  go_wp2_with fail
  refine (ckey_any a b c d _).mono ?_
  rintro e w2 ⟨rfl, hb⟩
  have N2 : Hid (Nw w w2) := N1.out.trans hb
  have E2 : Hid (w2.heap[be]? = some (.cells (engc 1000000000 n0 s0 bm1 l0 l1 bm2 l2 (.pointer none) (.pointer none)) 63 (0, 0)) ∧ w2.heap[bm1]? = some (.map #[] 0) ∧ w2.heap[bm2]? = some (.map #[] 0)) := ⟨blk_nw E1.out.1 hb, blk_nw E1.out.2.1 hb, blk_nw E1.out.2.2 hb⟩
  clear hb E1 N1
  unfold kc
  go_upto_if 28 with fail
  go_cut [] from 21 (fun wx => Hid (∃ d', (other = false → d' = d) ∧ (other = true → d' ≠ d) ∧ wx.heap[w2.heap.size]? = some (.cells (kc a b c d') 30 (0, 0)) ∧ (wx.heap[be]? = some (.cells (engc 1000000000 n0 s0 bm1 l0 l1 bm2 l2 (.pointer none) (.pointer none)) 63 (0, 0)) ∧ wx.heap[bm1]? = some (.map #[] 0) ∧ wx.heap[bm2]? = some (.map #[] 0)) ∧ Nw w wx))
  case first =>
    cases other
    · go_wp2_with fail
      go_meet
      case rel => exact ⟨d, fun _ => rfl, (fun h => by cases h), blk_new rfl, ⟨blk_alloc E2.out.1 _, blk_alloc E2.out.2.1 _, blk_alloc E2.out.2.2 _⟩, N2.out.alloc _⟩
    · go_wp2_with fail
      go_meet
      case rel =>
        exact ⟨_, (fun h => by cases h), fun _ => xor1 d hd0 hd, blk_new rfl, ⟨blk_alloc E2.out.1 _, blk_alloc E2.out.2.1 _, blk_alloc E2.out.2.2 _⟩, N2.out.alloc _⟩
  case rest =>
    clear E2 N2
    generalize w2.heap.size = bk at hcut ⊢
    obtain ⟨d', ho0, ho1, hK, hE, hN⟩ := hcut.out
    have HO : Hid ((other = false → d' = d) ∧ (other = true → d' ≠ d)) := ⟨ho0, ho1⟩
    have HK : Hid (wc.heap[bk]? = some (.cells (kc a b c d') 30 (0, 0))) := hK
    have HE : Hid (wc.heap[be]? = some (.cells (engc 1000000000 n0 s0 bm1 l0 l1 bm2 l2 (.pointer none) (.pointer none)) 63 (0, 0)) ∧ wc.heap[bm1]? = some (.map #[] 0) ∧ wc.heap[bm2]? = some (.map #[] 0)) := hE
    have HN : Hid (Nw w wc) := hN
    clear hcut ho0 ho1 hK hE hN
    go_wp2_with fail
    refine (add_any 0 0 un _ (by omega) (by omega) (by omega) (by omega) (by omega) (by omega)).mono ?_
    rintro e w3 ⟨n1, s1, rfl, hn0, hn1, hns, hb⟩
    have HT1 : Hid (0 ≤ n1 ∧ n1 < 1000000000 ∧ s1 * 1000000000 + n1 = un) := ⟨hn0, hn1, by omega⟩
    have HK3 : Hid (w3.heap[bk]? = some (.cells (kc a b c d') 30 (0, 0))) := blk_nw HK.out hb
    have HE3 : Hid (w3.heap[be]? = some (.cells (engc 1000000000 n0 s0 bm1 l0 l1 bm2 l2 (.pointer none) (.pointer none)) 63 (0, 0)) ∧ w3.heap[bm1]? = some (.map #[] 0) ∧ w3.heap[bm2]? = some (.map #[] 0)) := ⟨blk_nw HE.out.1 hb, blk_nw HE.out.2.1 hb, blk_nw HE.out.2.2 hb⟩
    have HN3 : Hid (Nw w w3) := HN.out.trans hb
    clear hb hn0 hn1 hns HK HE HN
    go_wp2_with fail
    obtain ⟨w4, hw4⟩ : ∃ w4, w4 = w3.alloc (.cells #[.int .u64 n1, .int .i64 s1, .pointer none] 55) := ⟨_, rfl⟩
    have HK4 : Hid (w4.heap[bk]? = some (.cells (kc a b c d') 30 (0, 0))) := hw4 ▸ blk_alloc HK3.out _
    have HU4 : Hid (w4.heap[w3.heap.size]? = some (.cells #[.int .u64 n1, .int .i64 s1, .pointer none] 55 (0, 0))) := hw4 ▸ blk_new rfl
    have HE4 : Hid (w4.heap[be]? = some (.cells (engc 1000000000 n0 s0 bm1 l0 l1 bm2 l2 (.pointer none) (.pointer none)) 63 (0, 0)) ∧ w4.heap[bm1]? = some (.map #[] 0) ∧ w4.heap[bm2]? = some (.map #[] 0)) := hw4 ▸ ⟨blk_alloc HE3.out.1 _, blk_alloc HE3.out.2.1 _, blk_alloc HE3.out.2.2 _⟩
    have HN4 : Hid (Nw w w4) := hw4 ▸ HN3.out.alloc _
    rw [← hw4]
    generalize w3.heap.size = bt at HU4 ⊢
    clear hw4 HK3 HE3 HN3
    have hup := upd56p bm2 a b c d' (.pointer (some ⟨w4.heap.size, 0, none⟩)) ((w4.alloc (.cells (banc a b c d' n1 s1) 81)).drew) (blk_drew (blk_alloc HE4.out.2.2 _))
    have d1 : bk ≠ bm2 := fun h => by have h1 := HK4.out; rw [h, HE4.out.2.2] at h1; cases h1
    have d2 : bt ≠ bm2 := fun h => by have h1 := HU4.out; rw [h, HE4.out.2.2] at h1; cases h1
    have d3 : be ≠ bm2 := fun h => by have h1 := HE4.out.1; rw [h, HE4.out.2.2] at h1; cases h1
    have HUP : Hid ((Instr.mapUpdate 56 (.map (some bm2)) (.agg (kc a b c d')) (.pointer (some ⟨w4.heap.size, 0, none⟩))).run Ybaz.prog ((w4.alloc (.cells (banc a b c d' n1 s1) 81)).drew) = .ok () (putMap ((w4.alloc (.cells (banc a b c d' n1 s1) 81)).drew) bm2 (.map #[⟨.agg (kc a b c d'), .pointer (some ⟨w4.heap.size, 0, none⟩), 0⟩] 1))) := hup
    clear hup
    refine wp_region_held_drew (S := fun wx => wx.heap[bk]? = some (.cells (kc a b c d') 30 (0, 0)) ∧ wx.heap[bt]? = some (.cells #[.int .u64 n1, .int .i64 s1, .pointer none] 55 (0, 0)) ∧ wx.heap[be]? = some (.cells (engc 1000000000 n0 s0 bm1 l0 l1 bm2 l2 (.pointer none) (.pointer none)) 63 (0, 0))) mixed ⟨blk_drew HK4.out, blk_drew HU4.out, blk_drew HE4.out.1⟩ (fun hHeld => ?_)
    have HH : Hid (w4.drew.heap[bk]? = some (.cells (kc a b c d') 30 (0, 0)) ∧ w4.drew.heap[bt]? = some (.cells #[.int .u64 n1, .int .i64 s1, .pointer none] 55 (0, 0)) ∧ w4.drew.heap[be]? = some (.cells (engc 1000000000 n0 s0 bm1 l0 l1 bm2 l2 (.pointer none) (.pointer none)) 63 (0, 0))) := hHeld
    clear hHeld
    refine wpAnyH_take (i := 0) (v := .pointer (some ⟨be, 0, none⟩)) rfl (by kernel_rfl) (by kernel_rfl) (by kernel_rfl) (fun _ _ _ h => h) (Or.inl ⟨by rfl, fun wx hx => ?_⟩) HH.out ?_
    · have q0 := blk_cell hx.1
      have q1 := blk_cell hx.2.1
      have q2 := blk_cell hx.2.2 28
      unfold kc at q0
      unfold engc at q2
      clear hx
      go_simp
    simp only [Act.put, List.setIfInBounds_toArray, List.set_cons_zero, List.set_cons_succ]
    refine wpAnyH_take (i := 1) (v := .pointer (some ⟨be, 0, none⟩)) rfl (by kernel_rfl) (by kernel_rfl) (by kernel_rfl) (fun _ _ _ h => h) (Or.inl ⟨by rfl, fun wx hx => ?_⟩) HH.out ?_
    · have q0 := blk_cell hx.1
      have q1 := blk_cell hx.2.1
      have q2 := blk_cell hx.2.2 28
      unfold kc at q0
      unfold engc at q2
      clear hx
      go_simp
    simp only [Act.put, List.setIfInBounds_toArray, List.set_cons_zero, List.set_cons_succ]
    refine wpAnyH_take (i := 2) (v := .pointer (some ⟨be, 28, none⟩)) rfl (by kernel_rfl) (by kernel_rfl) (by kernel_rfl) (fun _ _ _ h => h) (Or.inl ⟨by rfl, fun wx hx => ?_⟩) HH.out ?_
    · have q0 := blk_cell hx.1
      have q1 := blk_cell hx.2.1
      have q2 := blk_cell hx.2.2 28
      unfold kc at q0
      unfold engc at q2
      clear hx
      go_simp
    simp only [Act.put, List.setIfInBounds_toArray, List.set_cons_zero, List.set_cons_succ]
    refine wpAnyH_take (i := 3) (v := .pointer (some ⟨be, 28, none⟩)) rfl (by kernel_rfl) (by kernel_rfl) (by kernel_rfl) (fun _ _ _ h => h) (Or.inl ⟨by rfl, fun wx hx => ?_⟩) HH.out ?_
    · have q0 := blk_cell hx.1
      have q1 := blk_cell hx.2.1
      have q2 := blk_cell hx.2.2 28
      unfold kc at q0
      unfold engc at q2
      clear hx
      go_simp
    simp only [Act.put, List.setIfInBounds_toArray, List.set_cons_zero, List.set_cons_succ]
    refine wpAnyH_take (i := 4) (v := .map (some bm2)) rfl (by kernel_rfl) (by kernel_rfl) (by kernel_rfl) (fun _ _ _ h => h) (Or.inl ⟨by rfl, fun wx hx => ?_⟩) HH.out ?_
    · have q0 := blk_cell hx.1
      have q1 := blk_cell hx.2.1
      have q2 := blk_cell hx.2.2 28
      unfold kc at q0
      unfold engc at q2
      clear hx
      go_simp
    simp only [Act.put, List.setIfInBounds_toArray, List.set_cons_zero, List.set_cons_succ]
    refine wpAnyH_take (i := 5) (v := .agg #[.int .u8 0, .int .u8 0, .int .u8 0, .int .u8 0, .int .u8 0, .int .u8 0, .int .u8 0, .int .u8 0, .int .u8 0, .int .u8 0, .int .u8 255, .int .u8 255, .int .u8 a, .int .u8 b, .int .u8 c, .int .u8 d']) rfl (by kernel_rfl) (by kernel_rfl) (by kernel_rfl) (fun _ _ _ h => h) (Or.inl ⟨by rfl, fun wx hx => ?_⟩) HH.out ?_
    · have q0 := blk_cell hx.1
      have q1 := blk_cell hx.2.1
      have q2 := blk_cell hx.2.2 28
      unfold kc at q0
      unfold engc at q2
      clear hx
      go_simp
    simp only [Act.put, List.setIfInBounds_toArray, List.set_cons_zero, List.set_cons_succ]
    refine wpAnyH_take (i := 6) (v := .agg #[.int .u8 0, .int .u8 0, .int .u8 0, .int .u8 0, .int .u8 0, .int .u8 0, .int .u8 0, .int .u8 0, .int .u8 0, .int .u8 0, .int .u8 255, .int .u8 255, .int .u8 a, .int .u8 b, .int .u8 c, .int .u8 d']) rfl (by kernel_rfl) (by kernel_rfl) (by kernel_rfl) (fun _ _ _ h => h) (Or.inl ⟨by rfl, fun wx hx => ?_⟩) HH.out ?_
    · have q0 := blk_cell hx.1
      have q1 := blk_cell hx.2.1
      have q2 := blk_cell hx.2.2 28
      unfold kc at q0
      unfold engc at q2
      clear hx
      go_simp
    simp only [Act.put, List.setIfInBounds_toArray, List.set_cons_zero, List.set_cons_succ]
    refine wpAnyH_take (i := 7) (v := .agg #[.int .u8 0, .int .u8 0, .int .u8 0, .int .u8 0, .int .u8 0, .int .u8 0, .int .u8 0, .int .u8 0, .int .u8 0, .int .u8 0, .int .u8 255, .int .u8 255, .int .u8 a, .int .u8 b, .int .u8 c, .int .u8 d']) rfl (by kernel_rfl) (by kernel_rfl) (by kernel_rfl) (fun _ _ _ h => h) (Or.inl ⟨by rfl, fun wx hx => ?_⟩) HH.out ?_
    · have q0 := blk_cell hx.1
      have q1 := blk_cell hx.2.1
      have q2 := blk_cell hx.2.2 28
      unfold kc at q0
      unfold engc at q2
      clear hx
      go_simp
    simp only [Act.put, List.setIfInBounds_toArray, List.set_cons_zero, List.set_cons_succ]
    refine wpAnyH_take (i := 8) (v := .agg #[.int .u64 n1, .int .i64 s1, .pointer none]) rfl (by kernel_rfl) (by kernel_rfl) (by kernel_rfl) (fun _ _ _ h => h) (Or.inl ⟨by rfl, fun wx hx => ?_⟩) HH.out ?_
    · have q0 := blk_cell hx.1
      have q1 := blk_cell hx.2.1
      have q2 := blk_cell hx.2.2 28
      unfold kc at q0
      unfold engc at q2
      clear hx
      go_simp
    simp only [Act.put, List.setIfInBounds_toArray, List.set_cons_zero, List.set_cons_succ]
    refine wpAnyH_take (i := 9) (v := .agg #[.int .u8 0, .int .u8 0, .int .u8 0, .int .u8 0, .int .u8 0, .int .u8 0, .int .u8 0, .int .u8 0, .int .u8 0, .int .u8 0, .int .u8 255, .int .u8 255, .int .u8 a, .int .u8 b, .int .u8 c, .int .u8 d', .int .u64 n1, .int .i64 s1, .pointer none, .int .i64 1000000000]) rfl (by kernel_rfl) (by kernel_rfl) (by kernel_rfl) (fun _ _ _ h => h) (Or.inl ⟨by rfl, fun wx hx => ?_⟩) HH.out ?_
    · have q0 := blk_cell hx.1
      have q1 := blk_cell hx.2.1
      have q2 := blk_cell hx.2.2 28
      unfold kc at q0
      unfold engc at q2
      clear hx
      go_simp
    simp only [Act.put, List.setIfInBounds_toArray, List.set_cons_zero, List.set_cons_succ]
    refine wpAnyH_ready (rs := [10]) (by kernel_rfl) (by simp) ?_
    refine AllReadyH.cons rfl (fun K hK => ?_) AllReadyH.nil
    go_simp
    refine hK.out _ _ ⟨blk_alloc HH.out.1 _, blk_alloc HH.out.2.1 _, blk_alloc HH.out.2.2 _⟩ (fun hHeld => ?_)
    clear hK K hHeld
    refine wpAnyH_ready (rs := [11]) (by kernel_rfl) (by simp) ?_
    refine AllReadyH.cons rfl (fun K hK => ?_) AllReadyH.nil
    have hup := HUP.out
    unfold kc banc at hup
    go_simp
    refine hK.out _ _ ⟨putMap_blk _ d1 (blk_alloc HH.out.1 _), putMap_blk _ d2 (blk_alloc HH.out.2.1 _), putMap_blk _ d3 (blk_alloc HH.out.2.2 _)⟩ (fun hHeld => ?_)
    clear hK K hHeld hup
    refine wpAnyH_done (by kernel_rfl) ?_ _
    obtain ⟨w5, hw5⟩ : ∃ w5, w5 = putMap ((w4.alloc (.cells (banc a b c d' n1 s1) 81)).drew) bm2 (.map #[⟨.agg (kc a b c d'), .pointer (some ⟨w4.heap.size, 0, none⟩), 0⟩] 1) := ⟨_, rfl⟩
    have HE5 : Hid (w5.heap[be]? = some (.cells (engc 1000000000 n0 s0 bm1 l0 l1 bm2 l2 (.pointer none) (.pointer none)) 63 (0, 0))) := hw5 ▸ putMap_blk _ d3 (blk_alloc HH.out.2.2 _)
    have HM1 : Hid (w5.heap[bm1]? = some (.map #[] 0)) := hw5 ▸ putMap_blk _ (Nat.ne_of_lt HG.out.2.2.1) (blk_drew (blk_alloc HE4.out.2.1 _))
    have HM2 : Hid (w5.heap[bm2]? = some (.map #[⟨.agg (kc a b c d'), .pointer (some ⟨w4.heap.size, 0, none⟩), 0⟩] 1)) := hw5 ▸ putMap_same (blk_drew (blk_alloc HE4.out.2.2 _))
    have HBb : Hid (w5.heap[w4.heap.size]? = some (.cells (banc a b c d' n1 s1) 81 (0, 0))) := hw5 ▸ putMap_blk _ (Nat.ne_of_gt (lt_of_block HE4.out.2.2)) (blk_drew (blk_new rfl))
    have HU5 : Hid (w5.heap[bt]? = some (.cells #[.int .u64 n1, .int .i64 s1, .pointer none] 55 (0, 0))) := hw5 ▸ putMap_blk _ d2 (blk_alloc HH.out.2.1 _)
    have HN5 : Hid (Nw w w5) := hw5 ▸ putMap_nw ((HN4.out.alloc _).drew) (by have := HG.out; omega) _
    unfold kc banc at hw5
    simp only [← hw5]
    generalize w4.heap.size = bb at HM2 HBb ⊢
    clear hw5 HUP HH HE4 HU4 HK4 HN4 d1 d2 d3
    go_simp
    go_wp2_with fail
    refine (add_any 0 0 at' _ (by omega) (by omega) (by omega) (by omega) (by omega) (by omega)).mono ?_
    rintro e w6 ⟨n2, s2, rfl, hn0, hn1, hns, hb⟩
    have HT2 : Hid (0 ≤ n2 ∧ n2 < 1000000000 ∧ s2 * 1000000000 + n2 = at') := ⟨hn0, hn1, by omega⟩
    have F6 : Hid (Nw w5 w6) := hb
    clear hb hn0 hn1 hns
    go_wp2_with fail
    refine (addrFrom4_any a b c d p4 w6 (HZ.out.nw (HN5.out.trans F6.out)) ha0 ha hb0 hb hc0 hc hd0 hd).mono ?_
    rintro e w7 ⟨rfl, hb⟩
    have F7 : Hid (Nw w5 w7) := F6.out.trans hb
    clear hb F6
    obtain ⟨lo, hlo⟩ : ∃ lo, lo = 281470681743360 + a * 16777216 + b * 65536 + c * 256 + d := ⟨_, rfl⟩
    rw [← hlo]
    have HLO : Hid (lo = 281470681743360 + a * 16777216 + b * 65536 + c * 256 + d) := hlo
    clear hlo
    go_wp2_with fail
    obtain ⟨r, hr⟩ : ∃ r, r = (decide (d = d') && (decide (s2 * 1000000000 + n2 < s1 * 1000000000 + n1) && decide (s0 * 1000000000 + n0 < s1 * 1000000000 + n1))) := ⟨_, rfl⟩
    refine (ban_state be bm1 bm2 bb l0 l1 l2 (.pointer none) (.pointer none) 1000000000 n0 s0 n1 s1 n2 s2 a b c d d' lo p4 w7 (HZ.out.nw (HN5.out.trans F7.out)) ha0 ha hb0 hb hc0 hc hd0 hd HLO.out HT0.out.1 HT0.out.2.1 HT1.out.1 HT1.out.2.1 HT2.out.1 HT2.out.2.1 (blk_nw HE5.out F7.out) (blk_nw HM1.out F7.out) (blk_nw HM2.out F7.out) (blk_nw HBb.out F7.out) (fun w' _ => contains_nil lo p4 w') (fun w' _ => contains_nil lo p4 w') r hr).mono ?_
    rintro e w8 ⟨rfl, hb⟩
    have F8 : Hid (Nw w w8) := (HN5.out.trans F7.out).trans hb
    have HU8 : Hid (w8.heap[bt]? = some (.cells #[.int .u64 n1, .int .i64 s1, .pointer none] 55 (0, 0))) := blk_nw (blk_nw HU5.out F7.out) hb
    rw [HT0.out.2.2, HT1.out.2.2, HT2.out.2.2] at hr
    clear hb HE5 HM1 HM2 HBb HU5 HN5 F7 HLO HZ
    have ku := blk_cell HU8.out
    have hbt := lt_of_block HU8.out
    cases other
    · rw [HO.out.1 rfl] at hr
      simp only [decide_true, Bool.true_and] at hr
      by_cases c1 : at' < un
      · by_cases c2 : nw < un
        · obtain rfl : r = true := by rw [hr]; simp [c1, c2]
          clear hr
          go_wp2_with fail
          refine (equal_any n1 s1 n1 s1 _ HT1.out.1 HT1.out.2.1 HT1.out.1 HT1.out.2.1).mono ?_
          rintro e w9 ⟨rfl, hb⟩
          have F9 : Hid (Nw w w9) := F8.out.trans (((Nw.refl _).alloc _).trans hb)
          clear hb
          simp only [decide_true]
          go_wp2_with fail
          go_ret
          exact ⟨rfl, F9.out⟩
        · obtain rfl : r = false := by rw [hr]; simp [c1, c2]
          clear hr
          go_wp2_with fail
          refine (isZero_zero _).mono ?_
          rintro e w9 ⟨rfl, hb⟩
          have F9 : Hid (Nw w w9) := F8.out.trans (((Nw.refl _).alloc _).trans hb)
          clear hb
          go_wp2_with fail
          go_ret
          exact ⟨rfl, F9.out⟩
      · obtain rfl : r = false := by rw [hr]; simp [c1]
        clear hr
        go_wp2_with fail
        refine (isZero_zero _).mono ?_
        rintro e w9 ⟨rfl, hb⟩
        have F9 : Hid (Nw w w9) := F8.out.trans (((Nw.refl _).alloc _).trans hb)
        clear hb
        go_wp2_with fail
        go_ret
        exact ⟨rfl, F9.out⟩
    · obtain rfl : r = false := by rw [hr, decide_eq_false (fun h => HO.out.2 rfl h.symm)]; rfl
      clear hr
      go_wp2_with fail
      refine (isZero_zero _).mono ?_
      rintro e w9 ⟨rfl, hb⟩
      have F9 : Hid (Nw w w9) := F8.out.trans (((Nw.refl _).alloc _).trans hb)
      clear hb
      go_wp2_with fail
      go_ret
      exact ⟨rfl, F9.out⟩
end Go.Proofs.YbulkcbheGreatDoor
