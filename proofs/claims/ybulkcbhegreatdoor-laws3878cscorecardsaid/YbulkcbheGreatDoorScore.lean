import Derived.Test.YbulkcbheGreatDoorScoS
import Derived.Test.YbulkcbheGreatDoorBan
import Derived.Deep.DeepAppendRoom
import Derived.Laws.MakeOwn
namespace Go.Proofs.YbulkcbheGreatDoor
open Go.RowKit
set_option linter.unusedVariables false
set_option linter.unusedSimpArgs false
/-- A client's cells. -/
def clc (x y z u sc t v : Int) (more : Value) : Array Value :=
  #[.int .u8 0, .int .u8 0, .int .u8 0, .int .u8 0, .int .u8 0, .int .u8 0, .int .u8 0, .int .u8 0, .int .u8 0, .int .u8 0, .int .u8 255, .int .u8 255, .int .u8 x, .int .u8 y, .int .u8 z, .int .u8 u, .int .i64 sc, .int .i64 t, .int .i64 v, more]
/-- The marks that came in: gaps and weights. -/
def In2 (w : World) (sa : Option Addr) (len : Nat) (G W : Nat → Int) : Prop :=
  (sa = none ∧ len = 0) ∨ ∃ x, sa = some x ∧ ∀ i, i < len → w.cell? (x.add (i * 2)) = some (.int .u16 (G i)) ∧ w.cell? ((x.add (i * 2)).add 1) = some (.int .i16 (W i)) ∧ 0 ≤ G i ∧ G i ≤ 65535 ∧ -32768 ≤ W i ∧ W i ≤ 32767

/-- The marks behind the first, in memory of the call's own, from block B on. -/
def MoreOf (w : World) (B : Nat) (v : Value) (ms : List (Int × Int)) : Prop :=
  (ms = [] ∧ v = .pointer none) ∨ ∃ bp bs cap, ms ≠ [] ∧ B ≤ bp ∧ B ≤ bs ∧ v = .pointer (some ⟨bp, 0, none⟩) ∧ w.cell? ⟨bp, 0, none⟩ = some (.slice (some ⟨bs, 0, none⟩) ms.length cap) ∧
    ∀ i, i < ms.length → w.cell? ⟨bs, i * 2, none⟩ = some (.int .i64 (ms.getD i (0, 0)).1) ∧ w.cell? ⟨bs, i * 2 + 1, none⟩ = some (.int .i64 (ms.getD i (0, 0)).2)
def Eng3 (w : World) (be bm1 bm2 : Nat) (ec : Array Value) : Prop := w.heap[be]? = some (.cells ec 63 (0, 0)) ∧ w.heap[bm1]? = some (.map #[] 0) ∧ w.heap[bm2]? = some (.map #[] 0)
def flat (ms : List (Int × Int)) : List Value := ms.flatMap fun m => [.int .i64 m.1, .int .i64 m.2]
theorem flat_snoc (ms : List (Int × Int)) (m : Int × Int) : flat (ms ++ [m]) = flat ms ++ [.int .i64 m.1, .int .i64 m.2] := by simp [flat]
theorem flat_get (ms : List (Int × Int)) (i : Nat) (h : i < ms.length) : (flat ms)[i * 2]? = some (.int .i64 (ms.getD i (0, 0)).1) ∧ (flat ms)[i * 2 + 1]? = some (.int .i64 (ms.getD i (0, 0)).2) := by
  induction ms generalizing i with
  | nil => simp at h
  | cons x xs ih =>
    cases i with
    | zero => simp [flat]
    | succ k =>
      have hk : k < xs.length := by simpa using h
      have := ih k hk
      have e1 : (k + 1) * 2 = k * 2 + 2 := by omega
      have e2 : (k + 1) * 2 + 1 = k * 2 + 1 + 2 := by omega
      simp only [flat, List.flatMap_cons, List.getD_cons_succ] at this ⊢
      rw [e2, e1]
      simpa using this
theorem cell_two_new' (w : World) (x y : Value) (t : TypeId) : ∀ j u, [x, y][j]? = some u → (w.alloc (.cells #[x, y] t)).cell? ((⟨w.heap.size, 0, none⟩ : Addr).add j) = some u := by
  intro j u hj
  match j, hj with
  | 0, hj => simp at hj; subst hj; simp [Addr.add]
  | 1, hj => simp at hj; subst hj; simp [Addr.add]
  | j + 2, hj => simp at hj
theorem own_blk {w w' : World} {B g n cap : Nat} {xs : List Value} (h : w.ownsRow B 36 2 (.slice (some ⟨g, 0, none⟩) n cap) n xs) (hk : ∀ o, w.heap[g]? = some o → w'.heap[g]? = some o) : w'.ownsRow B 36 2 (.slice (some ⟨g, 0, none⟩) n cap) n xs := by
  refine ⟨h.1, ?_⟩
  rcases h.2 with h0 | ⟨g', cap', cur, hv, hb, hg, h4⟩
  · exact .inl h0
  · refine .inr ⟨g', cap', cur, hv, hb, ?_, h4⟩
    cases hv
    exact hk _ hg
theorem MoreOf.nw {w w' : World} {B : Nat} {v : Value} {ms : List (Int × Int)} (h : MoreOf w B v ms) (k : Nw w w') : MoreOf w' B v ms := by
  rcases h with h | ⟨bp, bs, cap, h1, h2, h3, h4, h5, h6⟩
  · exact .inl h
  · exact .inr ⟨bp, bs, cap, h1, h2, h3, h4, k.keep h5, fun i hi => ⟨k.keep (h6 i hi).1, k.keep (h6 i hi).2⟩⟩
theorem MoreOf.blk {w w' : World} {B : Nat} {v : Value} {ms : List (Int × Int)} (h : MoreOf w B v ms) (k : ∀ b, B ≤ b → (∃ i u, w.cell? ⟨b, i, none⟩ = some u) → w'.heap[b]? = w.heap[b]?) : MoreOf w' B v ms := by
  rcases h with h | ⟨bp, bs, cap, h1, h2, h3, h4, h5, h6⟩
  · exact .inl h
  · refine .inr ⟨bp, bs, cap, h1, h2, h3, h4, ?_, fun i hi => ⟨?_, ?_⟩⟩
    · rw [World.cell?_of_block (w := w) (k bp h2 ⟨0, _, h5⟩)]; exact h5
    · rw [World.cell?_of_block (w := w) (k bs h3 ⟨_, _, (h6 i hi).1⟩)]; exact (h6 i hi).1
    · rw [World.cell?_of_block (w := w) (k bs h3 ⟨_, _, (h6 i hi).1⟩)]; exact (h6 i hi).2
theorem marks_of {w : World} {bc : Nat} {x y z u sc t v : Int} {more : Value} {ms : List (Int × Int)} (h : w.heap[bc]? = some (.cells (clc x y z u sc t v more) 39 (0, 0))) (k : MoreOf w (bc + 1) more ms) : Marks w bc (t, v) ms := by
  refine ⟨blk_cell h 17, blk_cell h 18, ?_⟩
  rcases k with ⟨h1, h2⟩ | ⟨bp, bs, cap, h1, h2, h3, h4, h5, h6⟩
  · exact .inl ⟨h1, by rw [blk_cell h 19, ← h2]; rfl⟩
  · exact .inr ⟨bp, bs, cap, h1, by rw [blk_cell h 19, ← h4]; rfl, h5, h6⟩
theorem upd44p (bm : Nat) (x y z u : Int) (v : Value) (w : World) (h : w.heap[bm]? = some (.map #[] 0)) :
    (Instr.mapUpdate 44 (.map (some bm)) (.agg (kc x y z u)) v).run Ybaz.prog w = .ok () (putMap w bm (.map #[⟨.agg (kc x y z u), v, 0⟩] 1)) := by
  have hu := @Ybaz.underlying44
  simp [Instr.mapUpdate, run_underlying hu, MapKept.run_getObj_map h, MapKept.run_setObj_map _ h, Result.andThen, checkKc, findNone, putMap]
theorem info36 : (Ybaz.prog.info? 36).map (fun i => (i.zero, i.size, i.bytes)) = some (some (.agg #[.int .i64 0, .int .i64 0]), 2, 16) := by kernel_rfl
theorem Nw.keepA {w w' : World} (h : Nw w w') {a : Addr} {v : Value} (hc : w.cell? a = some v) : w'.cell? a = some v := by
  rw [Below.cell h (World.block_lt_of_cell? _ _ hc)]; exact hc

theorem loop_step (w wr w7 : World) (fa fw cu t tt ss la gp wt : Int) (ec cl : Array Value) (be bm1 bm2 bc bp g len j : Nat) (ms : List (Int × Int))
    (HR : (ms).length = j ∧ la = lastAt fa (ms) ∧ t = la ∧ tt = fw + tot (ms) ∧ ss = staleOf (cu) ((fa, fw) :: (ms)) ∧ (∀ m ∈ (fa, fw) :: (ms), m.1 ≤ t) ∧ (∀ m ∈ (ms), -32768 ≤ m.2 ∧ m.2 ≤ 32767) ∧ wr.heap[bp]? = some (.cells #[.slice (some ⟨g, 0, none⟩) (j) len] 40 (0, 0)) ∧ wr.ownsRow w.heap.size 36 2 (.slice (some ⟨g, 0, none⟩) (j) len) (j) (flat (ms)) ∧ wr.heap[bc]? = some (.cells cl 39 (0, 0)) ∧ Eng3 wr be bm1 bm2 ec ∧ Nw w wr) (h0 : 0 ≤ gp) (h1 : -32768 ≤ wt ∧ wt ≤ 32767)
    (hg7 : ∃ o o', ((wr.alloc o).alloc o').grownBy w7 (some g)) (hown7 : w7.ownsRow w.heap.size 36 2 (.slice (some ⟨g, 0, none⟩) (j + 1) len) (j + 1) (flat ms ++ [.int .i64 (t + gp), .int .i64 wt]))
    (hng : g ≠ bp) (hncg : bc ≠ g) (hncp : bc ≠ bp) (hwg : w.heap.size ≤ g) (hwp : w.heap.size ≤ bp) (s' : Int) (hs' : s' = ss + if t + gp ≤ cu then wt else 0) :
    (ms ++ [(t + gp, wt)]).length = j + 1 ∧ (t + gp) = lastAt fa (ms ++ [(t + gp, wt)]) ∧ (t + gp) = (t + gp) ∧ (tt + wt) = fw + tot (ms ++ [(t + gp, wt)]) ∧ s' = staleOf (cu) ((fa, fw) :: (ms ++ [(t + gp, wt)])) ∧ (∀ m ∈ (fa, fw) :: (ms ++ [(t + gp, wt)]), m.1 ≤ (t + gp)) ∧ (∀ m ∈ (ms ++ [(t + gp, wt)]), -32768 ≤ m.2 ∧ m.2 ≤ 32767) ∧ (w7.setCell ⟨bp, 0, none⟩ (.slice (some ⟨g, 0, none⟩) (j + 1) len)).heap[bp]? = some (.cells #[.slice (some ⟨g, 0, none⟩) (j + 1) len] 40 (0, 0)) ∧ (w7.setCell ⟨bp, 0, none⟩ (.slice (some ⟨g, 0, none⟩) (j + 1) len)).ownsRow w.heap.size 36 2 (.slice (some ⟨g, 0, none⟩) (j + 1) len) (j + 1) (flat (ms ++ [(t + gp, wt)])) ∧ (w7.setCell ⟨bp, 0, none⟩ (.slice (some ⟨g, 0, none⟩) (j + 1) len)).heap[bc]? = some (.cells cl 39 (0, 0)) ∧ Eng3 (w7.setCell ⟨bp, 0, none⟩ (.slice (some ⟨g, 0, none⟩) (j + 1) len)) be bm1 bm2 ec ∧ Nw w (w7.setCell ⟨bp, 0, none⟩ (.slice (some ⟨g, 0, none⟩) (j + 1) len)) := by
  obtain ⟨r1, r2, r3, r4, r5, r6, r7, r8, r9, r10, r11, r12⟩ := HR
  obtain ⟨o, o', hg⟩ := hg7
  have kp : ∀ (k : Nat) (z : Obj), wr.heap[k]? = some z → k ≠ g → k ≠ bp → (w7.setCell ⟨bp, 0, none⟩ (.slice (some ⟨g, 0, none⟩) (j + 1) len)).heap[k]? = some z := fun k z hz hk1 hk2 =>
    blk_set_other (blk_grown (blk_alloc (blk_alloc hz _) _) hg (fun h => hk1 (Option.some.inj h))) _ _ hk2
  obtain ⟨cur, hcur⟩ : ∃ cur, wr.heap[g]? = some (.cells cur 36 (0, 0)) := by
    rcases r9.2 with ⟨h, _⟩ | ⟨g', cap', cur, hv, hb', hg', _⟩
    · cases h
    · cases hv
      exact ⟨cur, hg'⟩
  have ne1 : ∀ (k : Nat) (z : Obj), wr.heap[k]? = some z → (∀ cs, z ≠ .cells cs 36 (0, 0)) → k ≠ g := fun k z hz hn h => by
    subst h
    rw [hcur] at hz
    exact hn _ (Option.some.inj hz).symm
  have ne2 : ∀ (k : Nat) (z : Obj), wr.heap[k]? = some z → (∀ cs, z ≠ .cells cs 40 (0, 0)) → k ≠ bp := fun k z hz hn h => by
    subst h
    rw [r8] at hz
    exact hn _ (Option.some.inj hz).symm
  have hsn := stale_snoc cu ((fa, fw) :: ms) (t + gp) wt (fun m hm => by have := r6 m hm; omega)
  refine ⟨by simp [r1], (lastAt_snoc fa ms (t + gp, wt)).symm, rfl, by rw [tot_snoc, r4]; simp only; omega, by rw [hs', r5, ← hsn]; rfl, fun m hm => ?_, fun m hm => ?_, ?_, ?_, kp _ _ r10 hncg hncp, ⟨kp _ _ r11.1 (ne1 _ _ r11.1 (fun cs h => by cases h)) (ne2 _ _ r11.1 (fun cs h => by cases h)), kp _ _ r11.2.1 (ne1 _ _ r11.2.1 (fun cs h => by cases h)) (ne2 _ _ r11.2.1 (fun cs h => by cases h)), kp _ _ r11.2.2 (ne1 _ _ r11.2.2 (fun cs h => by cases h)) (ne2 _ _ r11.2.2 (fun cs h => by cases h))⟩, ?_⟩
  · rcases List.mem_cons.1 hm with rfl | hm
    · have := r6 (fa, fw) (List.mem_cons_self ..); simp only at this ⊢; omega
    · rcases List.mem_append.1 hm with hm | hm
      · have := r6 m (List.mem_cons_of_mem _ hm); omega
      · simp only [List.mem_singleton] at hm; subst hm; exact Int.le_refl _
  · rcases List.mem_append.1 hm with hm | hm
    · exact r7 m hm
    · simp only [List.mem_singleton] at hm; subst hm; exact h1
  · exact blk_set (blk_grown (blk_alloc (blk_alloc r8 _) _) hg (fun h => hng (Option.some.inj h).symm)) 0 _
  · rw [flat_snoc]
    exact own_blk hown7 (fun z hz => blk_set_other hz _ _ hng)
  · exact (nw_grown ((r12.alloc _).alloc _) hg hwg).set hwp _

set_option maxRecDepth 100000 in
set_option maxHeartbeats 1600000 in
theorem lawScore_small (a b c d : Int) (other : Bool) (obs nw at' fa fw : Int) (sa : Option Addr) (len cap : Nat) (G W : Nat → Int) (p4 : Addr) (w : World) (hz : Zs w p4) (hin : In2 w sa len G W) (hlen : len ≤ 300)
    (ha0 : 0 ≤ a) (ha : a ≤ 255) (hb0 : 0 ≤ b) (hb : b ≤ 255) (hc0 : 0 ≤ c) (hc : c ≤ 255) (hd0 : 0 ≤ d) (hd : d ≤ 255) (ho0 : 0 ≤ obs) (ho1 : obs ≤ 4294967295)
    (hw0 : -2147483648 ≤ nw) (hw1 : nw ≤ 2147483647) (ht0 : -2147483648 ≤ at') (ht1 : at' ≤ 2147483647) (hf0 : -2147483648 ≤ fa) (hf1 : fa ≤ 2147483647) (hv0 : -32768 ≤ fw) (hv1 : fw ≤ 32767) :
    Calls Ybaz.prog 3 #[.int .u8 a, .int .u8 b, .int .u8 c, .int .u8 d, .bool other, .int .u32 obs, .int .i32 nw, .int .i32 at', .int .i32 fa, .int .i16 fw, .slice sa len cap] w fun e w' => e = .returned (.bool true) ∧ Nw w w' := by
  have HZ : Hid (Zs w p4) := hz
  have HIN : Hid (In2 w sa len G W) := hin
  clear hz hin
  go_enter Ybaz.func3, Ybaz.ntmps3
  go_wp2_with fail
  refine (engine_any nw (obs + 1) _ hw0 hw1).mono ?_
  rintro e w1 ⟨be, n0, s0, bm1, l0, l1, bm2, l2, rfl, gbe, g1, g2, g3, hn0, hn1, hns, hE, hM1, hM2, hNw⟩
  have HG : Hid (w.heap.size ≤ be ∧ w.heap.size ≤ bm1 ∧ bm1 < bm2 ∧ bm2 < be) := ⟨gbe, g1, g2, g3⟩
  have HT0 : Hid (0 ≤ n0 ∧ n0 < 1000000000 ∧ s0 * 1000000000 + n0 = nw) := ⟨hn0, hn1, hns⟩
  have E1 : Hid (w1.heap[be]? = some (.cells (engc (obs + 1) n0 s0 bm1 l0 l1 bm2 l2 (.pointer none) (.pointer none)) 63 (0, 0)) ∧ w1.heap[bm1]? = some (.map #[] 0) ∧ w1.heap[bm2]? = some (.map #[] 0)) := ⟨hE, hM1, hM2⟩
  have N1 : Hid (Nw w w1) := hNw
  clear gbe g1 g2 g3 hn0 hn1 hns hE hM1 hM2 hNw
  go_upto_if 57 with fail
  go_cut [28] from 38 (fun s28 wx => s28 = .int .i64 (staleOf (at' - (obs + 1)) [(fa, fw)]) ∧ Hid (wx = w1))
  case first =>
    by_cases hcu : fa ≤ at' - (obs + 1)
    · have HS : Hid (staleOf (at' - (obs + 1)) [(fa, fw)] = fw) := by show (if fa ≤ at' - (obs + 1) then fw + 0 else 0) = fw; rw [if_pos hcu]; omega
      go_wp2_with fail
      go_meet
      case rel => exact ⟨by rw [HS.out], rfl⟩
    · have HS : Hid (staleOf (at' - (obs + 1)) [(fa, fw)] = 0) := by show (if fa ≤ at' - (obs + 1) then fw + 0 else 0) = 0; rw [if_neg hcu]
      go_wp2_with fail
      go_meet
      case rel => exact ⟨by rw [HS.out], rfl⟩
  case rest =>
    obtain ⟨rfl, hwc⟩ := hcut
    obtain rfl : wc = w1 := hwc.out
    clear hwc
    go_wp2_with fail
    refine (ckey_any a b c d _).mono ?_
    rintro e w2 ⟨rfl, hb2⟩
    have N2 : Hid (Nw w w2) := N1.out.trans hb2
    have E2 : Hid (w2.heap[be]? = some (.cells (engc (obs + 1) n0 s0 bm1 l0 l1 bm2 l2 (.pointer none) (.pointer none)) 63 (0, 0)) ∧ w2.heap[bm1]? = some (.map #[] 0) ∧ w2.heap[bm2]? = some (.map #[] 0)) := ⟨blk_nw E1.out.1 hb2, blk_nw E1.out.2.1 hb2, blk_nw E1.out.2.2 hb2⟩
    clear hb2 E1 N1
    unfold kc
    go_upto_if 77 with fail
    obtain ⟨w3, hw3⟩ : ∃ w3, w3 = w2.alloc (.cells (clc a b c d 0 fa fw (.pointer none)) 39) := ⟨_, rfl⟩
    have N3 : Hid (Nw w w3) := hw3 ▸ N2.out.alloc _
    have E3 : Hid (Eng3 w3 be bm1 bm2 (engc (obs + 1) n0 s0 bm1 l0 l1 bm2 l2 (.pointer none) (.pointer none))) := hw3 ▸ ⟨blk_alloc E2.out.1 _, blk_alloc E2.out.2.1 _, blk_alloc E2.out.2.2 _⟩
    have C3 : Hid (w3.heap[w2.heap.size]? = some (.cells (clc a b c d 0 fa fw (.pointer none)) 39 (0, 0))) := hw3 ▸ blk_new rfl
    have HS3 : Hid (w3.heap.size = w2.heap.size + 1) := (show w3.heap.size = w2.heap.size + 1 by rw [hw3]; simp)
    unfold clc at hw3
    simp only [← hw3]
    have hbc : w.heap.size ≤ w2.heap.size := N2.out.size
    clear hw3 E2 N2
    generalize w2.heap.size = bc at C3 HS3 hbc ⊢
    go_cut [25, 27, 28, 29, 31, 33] from 38 (fun s25 s27 s28 s29 s31 s33 wx => ∃ (ms : List (Int × Int)) (tt ss la : Int) (more : Value), s27 = .int .i64 tt ∧ s28 = .int .i64 ss ∧ s29 = .int .i64 la ∧ -20000000 ≤ tt ∧ tt ≤ 20000000 ∧ -20000000 ≤ ss ∧ ss ≤ 20000000 ∧ Hid (tt = fw + tot ms ∧ ss = staleOf (at' - (obs + 1)) ((fa, fw) :: ms) ∧ la = lastAt fa ms ∧ ms.length ≤ 300 ∧ (∀ m ∈ ms, -32768 ≤ m.2 ∧ m.2 ≤ 32767) ∧ wx.heap[bc]? = some (.cells (clc a b c d 0 fa fw more) 39 (0, 0)) ∧ MoreOf wx (bc + 1) more ms ∧ Eng3 wx be bm1 bm2 (engc (obs + 1) n0 s0 bm1 l0 l1 bm2 l2 (.pointer none) (.pointer none)) ∧ Nw w wx))
    case first =>
      have hst0 := stale_rng (at' - (obs + 1)) [(fa, fw)] (fun m hm => by simp at hm; subst hm; exact ⟨hv0, hv1⟩)
      simp only [List.length_cons, List.length_nil] at hst0
      generalize hq : staleOf (at' - (obs + 1)) [(fa, fw)] = st0 at hst0 ⊢
      have HQ0 : Hid (st0 = staleOf (at' - (obs + 1)) [(fa, fw)]) := hq.symm
      clear hq
      by_cases hl0 : 0 < len
      · obtain ⟨x, rfl, hcs⟩ : ∃ x, sa = some x ∧ ∀ i, i < len → w.cell? (x.add (i * 2)) = some (.int .u16 (G i)) ∧ w.cell? ((x.add (i * 2)).add 1) = some (.int .i16 (W i)) ∧ 0 ≤ G i ∧ G i ≤ 65535 ∧ -32768 ≤ W i ∧ W i ≤ 32767 := by
          rcases HIN.out with ⟨_, h⟩ | h
          · omega
          · exact h
        have HCS : Hid (∀ i, i < len → w.cell? (x.add (i * 2)) = some (.int .u16 (G i)) ∧ w.cell? ((x.add (i * 2)).add 1) = some (.int .i16 (W i)) ∧ 0 ≤ G i ∧ G i ≤ 65535 ∧ -32768 ≤ W i ∧ W i ≤ 32767) := hcs
        clear hcs HIN
        obtain ⟨i0, hi, hz0, hz1, hz2⟩ := info_parts info36
        obtain ⟨w4, hmk, hown, hgr⟩ := run_makeSlice_owned (P := Ybaz.prog) w3 w.heap.size 40 36 i0 _ 2 Ybaz.underlying40 hi hz0 hz1 .i64 .i64 len (by omega) (by rw [hz2]; omega) (by unfold maxLen; omega) N3.out.size
        have HOW : Hid (w4.ownsRow w.heap.size 36 2 (.slice (some ⟨w3.heap.size, 0, none⟩) 0 len) 0 []) := hown
        have HGR : Hid (w3.grownBy w4 none) := hgr
        clear hown hgr
        go_wp2_with fail
        obtain ⟨w5, hw5⟩ : ∃ w5, w5 = w4.alloc (.cells #[.slice (some ⟨w3.heap.size, 0, none⟩) 0 len] 40) := ⟨_, rfl⟩
        have HP5 : Hid (w5.heap[w4.heap.size]? = some (.cells #[.slice (some ⟨w3.heap.size, 0, none⟩) 0 len] 40 (0, 0))) := hw5 ▸ blk_new rfl
        have HO5 : Hid (w5.ownsRow w.heap.size 36 2 (.slice (some ⟨w3.heap.size, 0, none⟩) 0 len) 0 []) := own_blk HOW.out (fun o ho => hw5 ▸ blk_alloc ho _)
        have C5 : Hid (w5.heap[bc]? = some (.cells (clc a b c d 0 fa fw (.pointer none)) 39 (0, 0))) := hw5 ▸ blk_alloc (blk_grown C3.out HGR.out (by simp)) _
        have E5 : Hid (Eng3 w5 be bm1 bm2 (engc (obs + 1) n0 s0 bm1 l0 l1 bm2 l2 (.pointer none) (.pointer none))) := hw5 ▸ ⟨blk_alloc (blk_grown E3.out.1 HGR.out (by simp)) _, blk_alloc (blk_grown E3.out.2.1 HGR.out (by simp)) _, blk_alloc (blk_grown E3.out.2.2 HGR.out (by simp)) _⟩
        have N5 : Hid (Nw w w5) := hw5 ▸ Nw.alloc (Below.grown N3.out HGR.out N3.out.size (fun j hj => by cases hj)) _
        have hgb : w3.heap.size < w4.heap.size := by
          rcases HOW.out.2 with ⟨h, _⟩ | ⟨g', cap', cur, hv, hb', hg', _⟩
          · cases h
          · cases hv
            exact lt_of_block hg'
        have hg1 : w3.heap.size = bc + 1 := HS3.out
        rw [← hw5]
        clear hw5 hmk HOW HGR C3 E3 N3 HS3
        generalize w3.heap.size = g at HP5 HO5 hgb hg1 ⊢
        generalize w4.heap.size = bp at HP5 hgb ⊢
        have hng : g ≠ bp := by omega
        have hncg : bc ≠ g := by omega
        have hncp : bc ≠ bp := by omega
        have HG1 : Hid (bc + 1 ≤ g ∧ bc + 1 ≤ bp) := ⟨by omega, by omega⟩
        have HWG : Hid (w.heap.size ≤ g ∧ w.heap.size ≤ bp) := ⟨by omega, by omega⟩
        clear hg1
        rw [show decide (0 < len) = true from decide_eq_true hl0]
        go_loopg [25, 27, 28, 29, 83] len (fun kx s25 s27 s28 s29 s83 wr => ∃ (j : Nat) (ms : List (Int × Int)) (t tt ss la : Int), s83 = .int .i64 j ∧ s25 = .int .i64 t ∧ s27 = .int .i64 tt ∧ s28 = .int .i64 ss ∧ s29 = .int .i64 la ∧ j ≤ len ∧ len - j ≤ kx ∧ -2147483648 ≤ t ∧ t ≤ 2147483647 + 65536 * (j : Int) ∧ -32768 * ((j : Int) + 1) ≤ tt ∧ tt ≤ 32768 * ((j : Int) + 1) ∧ -32768 * ((j : Int) + 1) ≤ ss ∧ ss ≤ 32768 * ((j : Int) + 1) ∧ Hid (ms.length = j ∧ la = lastAt fa ms ∧ t = la ∧ tt = fw + tot ms ∧ ss = staleOf (at' - (obs + 1)) ((fa, fw) :: ms) ∧ (∀ m ∈ (fa, fw) :: ms, m.1 ≤ t) ∧ (∀ m ∈ ms, -32768 ≤ m.2 ∧ m.2 ≤ 32767) ∧ wr.heap[bp]? = some (.cells #[.slice (some ⟨g, 0, none⟩) j len] 40 (0, 0)) ∧ wr.ownsRow w.heap.size 36 2 (.slice (some ⟨g, 0, none⟩) j len) j (flat ms) ∧ wr.heap[bc]? = some (.cells (clc a b c d 0 fa fw (.pointer none)) 39 (0, 0)) ∧ Eng3 wr be bm1 bm2 (engc (obs + 1) n0 s0 bm1 l0 l1 bm2 l2 (.pointer none) (.pointer none)) ∧ Nw w wr))
        case atStart =>
          refine ⟨0, [], fa, fw, st0, fa, rfl, rfl, rfl, rfl, rfl, by omega, by omega, by omega, by omega, by omega, by omega, by omega, by omega, ?_⟩
          exact ⟨rfl, rfl, rfl, by simp [tot], HQ0.out, (fun m hm => by simp at hm; subst hm; exact Int.le_refl _), (fun m hm => by cases hm), HP5.out, HO5.out, C5.out, E5.out, N5.out⟩
        case round =>
          obtain ⟨j, ms, t, tt, ss, la, rfl, rfl, rfl, rfl, rfl, hj, hk, ht1, ht2, htt1, htt2, hss1, hss2, HR⟩ := hrel
          clear HP5 HO5 C5 E5 N5
          by_cases hjl : j < len
          · obtain ⟨x0, x1, y0, y1, y2, y3⟩ := HCS.out j hjl
            have X0 := HR.out.2.2.2.2.2.2.2.2.2.2.2.keepA x0
            have X1 : wr.cell? ⟨(x.add (j * 2)).block, (x.add (j * 2)).off + 1, none⟩ = some (.int .i16 (W j)) := HR.out.2.2.2.2.2.2.2.2.2.2.2.keepA x1
            clear x0 x1
            generalize G j = gp at X0 y0 y1
            generalize W j = wt at X1 y2 y3
            have hpb := blk_cell HR.out.2.2.2.2.2.2.2.1
            have hpf := blk_free HR.out.2.2.2.2.2.2.2.1
            have hpl := lt_of_block HR.out.2.2.2.2.2.2.2.1
            have HOA : Hid (∀ o o', ((wr.alloc o).alloc o').ownsRow w.heap.size 36 2 (.slice (some ⟨g, 0, none⟩) j len) j (flat ms)) := fun o o' => own_blk HR.out.2.2.2.2.2.2.2.2.1 (fun z hz => blk_alloc (blk_alloc hz _) _)
            have HTW : Hid (∀ (o : Obj) (x y : Value) (ty : TypeId) (q : Nat) (u : Value), [x, y][q]? = some u → ((wr.alloc o).alloc (.cells #[x, y] ty)).cell? ((⟨wr.heap.size + 1, 0, none⟩ : Addr).add q) = some u) := fun o x y ty q u hq => by
              have := cell_two_new' (wr.alloc o) x y ty q u hq
              simpa using this
            have hgl : g < wr.heap.size := by
              rcases HR.out.2.2.2.2.2.2.2.2.1.2 with ⟨h, _⟩ | ⟨g', cap', cur, hv, hb', hg', _⟩
              · cases h
              · cases hv
                exact lt_of_block hg'
            have HP7 : Hid (∀ o o' w7, ((wr.alloc o).alloc o').grownBy w7 (some g) → w7.heap[bp]? = some (.cells #[.slice (some ⟨g, 0, none⟩) j len] 40 (0, 0))) := fun o o' w7 hg => blk_grown (blk_alloc (blk_alloc HR.out.2.2.2.2.2.2.2.1 _) _) hg (fun h => hng (Option.some.inj h).symm)
            have HM7 : Hid (∀ cs ty o' w7, ((wr.alloc (.cells cs ty)).alloc o').grownBy w7 (some g) → w7.heap[wr.heap.size]? = some (.cells cs ty (0, 0))) := fun cs ty o' w7 hg => blk_grown (blk_alloc (blk_new rfl) _) hg (fun h => Nat.ne_of_gt hgl (Option.some.inj h))
            have hn1 : wr.heap.size ≠ bp := by omega
            have hn2 : bp ≠ wr.heap.size := by omega
            by_cases hcu : t + gp ≤ at' - (obs + 1)
            · skip
              go_wp2_with (at_builtin; refine wpList_append_own_spare _ rfl _ _ 40 rfl w.heap.size 36 i0 2 Ybaz.underlying40 hi hz1 g j len (flat ms) rfl (HOA.out _ _) ⟨wr.heap.size + 1, 0, none⟩ 1 1 [_, _] rfl rfl (fun q u hq => HTW.out _ _ _ _ q u hq) (fun u hu => by simp at hu; rcases hu with rfl | rfl <;> rfl) (by omega) ?_; intro w7 hown' hgrow; have pc := blk_cell (HP7.out _ _ _ hgrow); have pf := blk_free (HP7.out _ _ _ hgrow); have mc := blk_cell (HM7.out _ _ _ _ hgrow); have HOW7 : Hid (w7.ownsRow w.heap.size 36 2 (.slice (some ⟨g, 0, none⟩) (j + 1) len) (j + 1) (flat ms ++ [.int .i64 (t + gp), .int .i64 wt])) := hown'; clear hown'; have HGR7 : Hid (∃ o o', ((wr.alloc o).alloc o').grownBy w7 (some g)) := ⟨_, _, hgrow⟩; clear hgrow)
              go_roundg (len - (j + 1))
              case measure => omega
              case rel =>
                refine ⟨j + 1, ms ++ [(t + gp, wt)], t + gp, tt + wt, (ss + wt), t + gp, rfl, rfl, rfl, rfl, rfl, by omega, by omega, by omega, by omega, by omega, by omega, by omega, by omega, ?_⟩
                exact loop_step w wr w7 fa fw (at' - (obs + 1)) t tt ss la gp wt _ _ be bm1 bm2 bc bp g len j ms HR.out y0 ⟨y2, y3⟩ HGR7.out HOW7.out hng hncg hncp HWG.out.1 HWG.out.2 (ss + wt) (by rw [if_pos hcu])
            · skip
              go_wp2_with (at_builtin; refine wpList_append_own_spare _ rfl _ _ 40 rfl w.heap.size 36 i0 2 Ybaz.underlying40 hi hz1 g j len (flat ms) rfl (HOA.out _ _) ⟨wr.heap.size + 1, 0, none⟩ 1 1 [_, _] rfl rfl (fun q u hq => HTW.out _ _ _ _ q u hq) (fun u hu => by simp at hu; rcases hu with rfl | rfl <;> rfl) (by omega) ?_; intro w7 hown' hgrow; have pc := blk_cell (HP7.out _ _ _ hgrow); have pf := blk_free (HP7.out _ _ _ hgrow); have mc := blk_cell (HM7.out _ _ _ _ hgrow); have HOW7 : Hid (w7.ownsRow w.heap.size 36 2 (.slice (some ⟨g, 0, none⟩) (j + 1) len) (j + 1) (flat ms ++ [.int .i64 (t + gp), .int .i64 wt])) := hown'; clear hown'; have HGR7 : Hid (∃ o o', ((wr.alloc o).alloc o').grownBy w7 (some g)) := ⟨_, _, hgrow⟩; clear hgrow)
              go_roundg (len - (j + 1))
              case measure => omega
              case rel =>
                refine ⟨j + 1, ms ++ [(t + gp, wt)], t + gp, tt + wt, ss, t + gp, rfl, rfl, rfl, rfl, rfl, by omega, by omega, by omega, by omega, by omega, by omega, by omega, by omega, ?_⟩
                exact loop_step w wr w7 fa fw (at' - (obs + 1)) t tt ss la gp wt _ _ be bm1 bm2 bc bp g len j ms HR.out y0 ⟨y2, y3⟩ HGR7.out HOW7.out hng hncg hncp HWG.out.1 HWG.out.2 ss (by rw [if_neg (Int.not_le.2 hcu), Int.add_zero])
          · obtain rfl : j = len := by omega
            have hcb := blk_cell HR.out.2.2.2.2.2.2.2.2.2.1
            have hcf := blk_free HR.out.2.2.2.2.2.2.2.2.2.1
            unfold clc at hcb
            go_wp2_with fail
            go_meet
            case rel =>
              obtain ⟨r1, r2, r3, r4, r5, r6, r7, r8, r9, r10, r11, r12⟩ := HR.out
              have hcb' : bc < wr.heap.size := lt_of_block r10
              refine ⟨ms, tt, ss, la, .pointer (some ⟨bp, 0, none⟩), rfl, rfl, rfl, by omega, by omega, by omega, by omega, ?_⟩
              refine ⟨r4, r5, r2, by omega, r7, ?_, ?_, ⟨?_, ?_, ?_⟩, r12.set hbc _⟩
              · exact blk_set r10 19 _
              · refine .inr ⟨bp, g, j, ?_, HG1.out.2, HG1.out.1, rfl, ?_, fun i hi => ?_⟩
                · intro h
                  rw [h] at r1
                  simp at r1
                  omega
                · rw [blk_cell (blk_set_other r8 _ _ (Ne.symm hncp)), r1]
                  rfl
                · have hf := flat_get ms i hi
                  have k1 := own_blk r9 (fun z hz => blk_set_other hz ⟨bc, 19, none⟩ (.pointer (some ⟨bp, 0, none⟩)) (Ne.symm hncg))
                  rw [← r1] at k1
                  exact ⟨(k1.cellAt (i * 2) (by omega)).trans hf.1, (k1.cellAt (i * 2 + 1) (by omega)).trans hf.2⟩
              · exact blk_set_other r11.1 _ _ (fun h => by have := r11.1; rw [h, r10] at this; cases this)
              · exact blk_set_other r11.2.1 _ _ (fun h => by have := r11.2.1; rw [h, r10] at this; cases this)
              · exact blk_set_other r11.2.2 _ _ (fun h => by have := r11.2.2; rw [h, r10] at this; cases this)
      · go_wp2_with fail
        go_meet
        case rel =>
          exact ⟨[], fw, st0, fa, .pointer none, rfl, rfl, rfl, by omega, by omega, by omega, by omega, (by simp [tot]), HQ0.out, rfl, by simp, (fun m hm => by cases hm), C3.out, .inl ⟨rfl, rfl⟩, E3.out, N3.out⟩
    case rest =>
      obtain ⟨ms, tt, ss, la, more, rfl, rfl, rfl, b1, b2, b3, b4, HC⟩ := hcut
      have hcb := blk_cell HC.out.2.2.2.2.2.1
      have hcf := blk_free HC.out.2.2.2.2.2.1
      unfold clc at hcb
      clear E3 C3 N3 HS3 HIN
      go_wp2_with fail
      refine (ckey_any a b c d _).mono ?_
      rintro e w6 ⟨rfl, hb6⟩
      have HV : Hid (tt = fw + tot ms ∧ ss = staleOf (at' - (obs + 1)) ((fa, fw) :: ms) ∧ la = lastAt fa ms ∧ ms.length ≤ 300 ∧ (∀ m ∈ ms, -32768 ≤ m.2 ∧ m.2 ≤ 32767)) := ⟨HC.out.1, HC.out.2.1, HC.out.2.2.1, HC.out.2.2.2.1, HC.out.2.2.2.2.1⟩
      have C6 : Hid (w6.heap[bc]? = some (.cells (clc a b c d tt fa fw more) 39 (0, 0)) ∧ MoreOf w6 (bc + 1) more ms ∧ Eng3 w6 be bm1 bm2 (engc (obs + 1) n0 s0 bm1 l0 l1 bm2 l2 (.pointer none) (.pointer none)) ∧ Nw w w6) := by
        obtain ⟨_, _, _, _, _, r10, r13, r11, r12⟩ := HC.out
        refine ⟨blk_nw (blk_set r10 16 _) hb6, MoreOf.nw (r13.blk (fun k hk _ => ?_)) hb6, ⟨blk_nw (blk_set_other r11.1 _ _ (fun h => by have := r11.1; rw [h, r10] at this; cases this)) hb6, blk_nw (blk_set_other r11.2.1 _ _ (fun h => by have := r11.2.1; rw [h, r10] at this; cases this)) hb6, blk_nw (blk_set_other r11.2.2 _ _ (fun h => by have := r11.2.2; rw [h, r10] at this; cases this)) hb6⟩, (r12.set hbc _).trans hb6⟩
        exact blk_set_other rfl _ _ (show k ≠ bc by omega)
      clear hb6 HC hcb hcf
      unfold kc
      go_upto_if 127 with fail
      go_cut [] from 38 (fun wx => Hid (∃ d', (other = false → d' = d) ∧ (other = true → d' ≠ d) ∧ wx.heap[w6.heap.size]? = some (.cells (kc a b c d') 30 (0, 0)) ∧ (wx.heap[bc]? = some (.cells (clc a b c d tt fa fw more) 39 (0, 0)) ∧ MoreOf wx (bc + 1) more ms ∧ Eng3 wx be bm1 bm2 (engc (obs + 1) n0 s0 bm1 l0 l1 bm2 l2 (.pointer none) (.pointer none)) ∧ Nw w wx)))
      case first =>
        cases other
        · go_wp2_with fail
          go_meet
          case rel => exact ⟨d, fun _ => rfl, (fun h => by cases h), blk_new rfl, blk_alloc C6.out.1 _, C6.out.2.1.nw ((Nw.refl _).alloc _), ⟨blk_alloc C6.out.2.2.1.1 _, blk_alloc C6.out.2.2.1.2.1 _, blk_alloc C6.out.2.2.1.2.2 _⟩, C6.out.2.2.2.alloc _⟩
        · go_wp2_with fail
          go_meet
          case rel => exact ⟨_, (fun h => by cases h), fun _ => xor1 d hd0 hd, blk_new rfl, blk_alloc C6.out.1 _, C6.out.2.1.nw ((Nw.refl _).alloc _), ⟨blk_alloc C6.out.2.2.1.1 _, blk_alloc C6.out.2.2.1.2.1 _, blk_alloc C6.out.2.2.1.2.2 _⟩, C6.out.2.2.2.alloc _⟩
      case rest =>
        clear C6
        generalize w6.heap.size = bk at hcut ⊢
        obtain ⟨d', ho0', ho1', hK, hC⟩ := hcut.out
        have HO : Hid ((other = false → d' = d) ∧ (other = true → d' ≠ d)) := ⟨ho0', ho1'⟩
        have HK : Hid (wc.heap[bk]? = some (.cells (kc a b c d') 30 (0, 0))) := hK
        have HC7 : Hid (wc.heap[bc]? = some (.cells (clc a b c d tt fa fw more) 39 (0, 0)) ∧ MoreOf wc (bc + 1) more ms ∧ Eng3 wc be bm1 bm2 (engc (obs + 1) n0 s0 bm1 l0 l1 bm2 l2 (.pointer none) (.pointer none)) ∧ Nw w wc) := hC
        clear hcut ho0' ho1' hK hC
        go_wp2_with fail
        have d1 : bk ≠ bm1 := fun h => by have h1 := HK.out; rw [h, HC7.out.2.2.1.2.1] at h1; cases h1
        have d3 : be ≠ bm1 := fun h => by have h1 := HC7.out.2.2.1.1; rw [h, HC7.out.2.2.1.2.1] at h1; cases h1
        have HUP : Hid ((Instr.mapUpdate 44 (.map (some bm1)) (.agg (kc a b c d')) (.pointer (some ⟨bc, 0, none⟩))).run Ybaz.prog (wc.drew) = .ok () (putMap (wc.drew) bm1 (.map #[⟨.agg (kc a b c d'), .pointer (some ⟨bc, 0, none⟩), 0⟩] 1))) := upd44p bm1 a b c d' _ _ (blk_drew HC7.out.2.2.1.2.1)
        refine wp_region_held_drew (S := fun wx => wx.heap[bk]? = some (.cells (kc a b c d') 30 (0, 0)) ∧ wx.heap[be]? = some (.cells (engc (obs + 1) n0 s0 bm1 l0 l1 bm2 l2 (.pointer none) (.pointer none)) 63 (0, 0))) mixed ⟨blk_drew HK.out, blk_drew HC7.out.2.2.1.1⟩ (fun hHeld => ?_)
        have HH : Hid (wc.drew.heap[bk]? = some (.cells (kc a b c d') 30 (0, 0)) ∧ wc.drew.heap[be]? = some (.cells (engc (obs + 1) n0 s0 bm1 l0 l1 bm2 l2 (.pointer none) (.pointer none)) 63 (0, 0))) := hHeld
        clear hHeld
        refine wpAnyH_take (i := 0) (v := .pointer (some ⟨be, 0, none⟩)) rfl (by kernel_rfl) (by kernel_rfl) (by kernel_rfl) (fun _ _ _ h => h) (Or.inl ⟨by rfl, fun wx hx => ?_⟩) HH.out ?_
        · have q0 := blk_cell hx.1
          have q2 := blk_cell hx.2 24
          unfold kc at q0
          unfold engc at q2
          clear hx
          go_simp
        simp only [Act.put, List.setIfInBounds_toArray, List.set_cons_zero, List.set_cons_succ]
        refine wpAnyH_take (i := 1) (v := .pointer (some ⟨be, 0, none⟩)) rfl (by kernel_rfl) (by kernel_rfl) (by kernel_rfl) (fun _ _ _ h => h) (Or.inl ⟨by rfl, fun wx hx => ?_⟩) HH.out ?_
        · have q0 := blk_cell hx.1
          have q2 := blk_cell hx.2 24
          unfold kc at q0
          unfold engc at q2
          clear hx
          go_simp
        simp only [Act.put, List.setIfInBounds_toArray, List.set_cons_zero, List.set_cons_succ]
        refine wpAnyH_take (i := 2) (v := .pointer (some ⟨be, 24, none⟩)) rfl (by kernel_rfl) (by kernel_rfl) (by kernel_rfl) (fun _ _ _ h => h) (Or.inl ⟨by rfl, fun wx hx => ?_⟩) HH.out ?_
        · have q0 := blk_cell hx.1
          have q2 := blk_cell hx.2 24
          unfold kc at q0
          unfold engc at q2
          clear hx
          go_simp
        simp only [Act.put, List.setIfInBounds_toArray, List.set_cons_zero, List.set_cons_succ]
        refine wpAnyH_take (i := 3) (v := .pointer (some ⟨be, 24, none⟩)) rfl (by kernel_rfl) (by kernel_rfl) (by kernel_rfl) (fun _ _ _ h => h) (Or.inl ⟨by rfl, fun wx hx => ?_⟩) HH.out ?_
        · have q0 := blk_cell hx.1
          have q2 := blk_cell hx.2 24
          unfold kc at q0
          unfold engc at q2
          clear hx
          go_simp
        simp only [Act.put, List.setIfInBounds_toArray, List.set_cons_zero, List.set_cons_succ]
        refine wpAnyH_take (i := 4) (v := .map (some bm1)) rfl (by kernel_rfl) (by kernel_rfl) (by kernel_rfl) (fun _ _ _ h => h) (Or.inl ⟨by rfl, fun wx hx => ?_⟩) HH.out ?_
        · have q0 := blk_cell hx.1
          have q2 := blk_cell hx.2 24
          unfold kc at q0
          unfold engc at q2
          clear hx
          go_simp
        simp only [Act.put, List.setIfInBounds_toArray, List.set_cons_zero, List.set_cons_succ]
        refine wpAnyH_take (i := 5) (v := .agg #[.int .u8 0, .int .u8 0, .int .u8 0, .int .u8 0, .int .u8 0, .int .u8 0, .int .u8 0, .int .u8 0, .int .u8 0, .int .u8 0, .int .u8 255, .int .u8 255, .int .u8 a, .int .u8 b, .int .u8 c, .int .u8 d']) rfl (by kernel_rfl) (by kernel_rfl) (by kernel_rfl) (fun _ _ _ h => h) (Or.inl ⟨by rfl, fun wx hx => ?_⟩) HH.out ?_
        · have q0 := blk_cell hx.1
          have q2 := blk_cell hx.2 24
          unfold kc at q0
          unfold engc at q2
          clear hx
          go_simp
        simp only [Act.put, List.setIfInBounds_toArray, List.set_cons_zero, List.set_cons_succ]
        refine wpAnyH_take (i := 6) (v := .pointer (some ⟨bc, 0, none⟩)) rfl (by kernel_rfl) (by kernel_rfl) (by kernel_rfl) (fun _ _ _ h => h) (Or.inl ⟨by rfl, fun wx hx => ?_⟩) HH.out ?_
        · have q0 := blk_cell hx.1
          have q2 := blk_cell hx.2 24
          unfold kc at q0
          unfold engc at q2
          clear hx
          go_simp
        simp only [Act.put, List.setIfInBounds_toArray, List.set_cons_zero, List.set_cons_succ]
        refine wpAnyH_ready (rs := [7]) (by kernel_rfl) (by simp) ?_
        refine AllReadyH.cons rfl (fun K hK => ?_) AllReadyH.nil
        have hup := HUP.out
        unfold kc at hup
        go_simp
        refine hK.out _ _ ⟨putMap_blk _ d1 HH.out.1, putMap_blk _ d3 HH.out.2⟩ (fun hHeld => ?_)
        clear hK K hHeld hup
        refine wpAnyH_done (by kernel_rfl) ?_ _
        obtain ⟨w8, hw8⟩ : ∃ w8, w8 = putMap (wc.drew) bm1 (.map #[⟨.agg (kc a b c d'), .pointer (some ⟨bc, 0, none⟩), 0⟩] 1) := ⟨_, rfl⟩
        have HE8 : Hid (w8.heap[be]? = some (.cells (engc (obs + 1) n0 s0 bm1 l0 l1 bm2 l2 (.pointer none) (.pointer none)) 63 (0, 0))) := hw8 ▸ putMap_blk _ d3 HH.out.2
        have HM2 : Hid (w8.heap[bm2]? = some (.map #[] 0)) := hw8 ▸ putMap_blk _ (Nat.ne_of_gt HG.out.2.2.1) (blk_drew HC7.out.2.2.1.2.2)
        have HM1 : Hid (w8.heap[bm1]? = some (.map #[⟨.agg (kc a b c d'), .pointer (some ⟨bc, 0, none⟩), 0⟩] 1)) := hw8 ▸ putMap_same (blk_drew HC7.out.2.2.1.2.1)
        have HC8 : Hid (w8.heap[bc]? = some (.cells (clc a b c d tt fa fw more) 39 (0, 0)) ∧ MoreOf w8 (bc + 1) more ms) := by
          subst hw8
          refine ⟨putMap_blk _ (fun h => by have := HC7.out.1; rw [h, HC7.out.2.2.1.2.1] at this; cases this) (blk_drew HC7.out.1), MoreOf.blk (w := wc) HC7.out.2.1 (fun k hk hcell => putMap_blk _ (fun h => ?_) rfl)⟩
          obtain ⟨i, u, hu⟩ := hcell
          have hm := HC7.out.2.2.1.2.1
          rw [h] at hu
          simp [World.cell?, hm] at hu
        have HN8 : Hid (Nw w w8) := hw8 ▸ putMap_nw HC7.out.2.2.2.drew HG.out.2.1 _
        unfold kc at hw8
        simp only [← hw8]
        clear hw8 HUP HH HK HC7 d1 d3
        go_simp
        go_wp2_with fail
        refine (add_any 0 0 at' _ (by omega) (by omega) (by omega) (by omega) (by omega) (by omega)).mono ?_
        rintro e w9 ⟨n2, s2, rfl, hn0, hn1, hns, hb9⟩
        have HT2 : Hid (0 ≤ n2 ∧ n2 < 1000000000 ∧ s2 * 1000000000 + n2 = at') := ⟨hn0, hn1, by omega⟩
        have F9 : Hid (Nw w8 w9) := hb9
        clear hb9 hn0 hn1 hns
        go_wp2_with fail
        refine (addrFrom4_any a b c d p4 w9 (HZ.out.nw (HN8.out.trans F9.out)) ha0 ha hb0 hb hc0 hc hd0 hd).mono ?_
        rintro e w10 ⟨rfl, hb10⟩
        have F10 : Hid (Nw w8 w10) := F9.out.trans hb10
        clear hb10 F9
        obtain ⟨lo, hlo⟩ : ∃ lo, lo = 281470681743360 + a * 16777216 + b * 65536 + c * 256 + d := ⟨_, rfl⟩
        rw [← hlo]
        have HLO : Hid (lo = 281470681743360 + a * 16777216 + b * 65536 + c * 256 + d) := hlo
        clear hlo
        go_wp2_with fail
        have t0 := HT0.out
        have t2 := HT2.out
        refine (score_state be bm1 bm2 bc l0 l1 l2 (obs + 1) n0 s0 n2 s2 a b c d d' lo tt (fa, fw) ms p4 w10 (HZ.out.nw (HN8.out.trans F10.out)) ha0 ha hb0 hb hc0 hc hd0 hd HLO.out t0.1 t0.2.1 (by omega) (by omega) t2.1 t2.2.1 (by omega) (by omega) (by omega) (by omega) (blk_nw HE8.out F10.out) (blk_nw HM2.out F10.out) (blk_nw HM1.out F10.out) (Marks.nw (marks_of HC8.out.1 HC8.out.2) F10.out) (F10.out.keep (blk_cell HC8.out.1 16)) HV.out.2.2.2.1 ⟨hv0, hv1⟩ HV.out.2.2.2.2 (by omega) (by omega)).mono ?_
        rw [t0.2.2, t2.2.2, ← HV.out.2.1, show lastAt (fa, fw).1 ms = la from HV.out.2.2.1.symm]
        rintro e w11 ⟨rfl, hb11⟩
        have F11 : Hid (Nw w w11) := (HN8.out.trans F10.out).trans hb11
        clear hb11 t0 t2 HE8 HM1 HM2 HC8 HN8 F10 HLO HZ HT0 HT2 HV HG
        cases other
        · have hdd := HO.out.1 rfl
          subst hdd
          by_cases hlv : nw - (obs + 1) < la
          · rw [if_pos ⟨rfl, hlv⟩]
            go_wp2_with fail
            refine (isZero_zero _).mono ?_
            rintro e w12 ⟨rfl, hb12⟩
            have F12 : Hid (Nw w w12) := F11.out.trans (((Nw.refl _).alloc _).trans hb12)
            have R12 : Hid (w12.heap[w11.heap.size]? = some (.cells #[.int .i64 (tt - ss), .bool false, .int .u64 0, .int .i64 0, .pointer none, .bool false, .bool false] 65 (0, 0))) := blk_nw (blk_new rfl) hb12
            have k12 := blk_cell R12.out
            clear hb12
            go_wp2_with fail
            go_ret
            exact ⟨rfl, F12.out⟩
          · rw [if_neg (fun h => hlv h.2)]
            go_wp2_with fail
            refine (isZero_zero _).mono ?_
            rintro e w12 ⟨rfl, hb12⟩
            have F12 : Hid (Nw w w12) := F11.out.trans (((Nw.refl _).alloc _).trans hb12)
            have R12 : Hid (w12.heap[w11.heap.size]? = some (.cells #[.int .i64 0, .bool false, .int .u64 0, .int .i64 0, .pointer none, .bool false, .bool false] 65 (0, 0))) := blk_nw (blk_new rfl) hb12
            have k12 := blk_cell R12.out
            clear hb12
            go_wp2_with fail
            go_ret
            exact ⟨rfl, F12.out⟩
        · rw [if_neg (fun h => HO.out.2 rfl h.1.symm)]
          go_wp2_with fail
          refine (isZero_zero _).mono ?_
          rintro e w12 ⟨rfl, hb12⟩
          have F12 : Hid (Nw w w12) := F11.out.trans (((Nw.refl _).alloc _).trans hb12)
          have R12 : Hid (w12.heap[w11.heap.size]? = some (.cells #[.int .i64 0, .bool false, .int .u64 0, .int .i64 0, .pointer none, .bool false, .bool false] 65 (0, 0))) := blk_nw (blk_new rfl) hb12
          have k12 := blk_cell R12.out
          clear hb12
          go_wp2_with fail
          go_ret
          exact ⟨rfl, F12.out⟩
end Go.Proofs.YbulkcbheGreatDoor
