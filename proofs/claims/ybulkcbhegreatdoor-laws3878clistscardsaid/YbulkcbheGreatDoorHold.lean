import Derived.Test.YbulkcbheGreatDoorLis
import Derived.Deep.RegionHeld3
namespace Go.Proofs.YbulkcbheGreatDoor
open Go.RowKit
set_option linter.unusedVariables false
set_option linter.unusedSimpArgs false

/-- A list of one range, in memory. -/
def ListAt (w : World) (bl br bi : Nat) (f l : Int) : Prop :=
  w.heap[bl]? = some (.cells #[.slice (some ⟨br, 0, none⟩) 1 1, .slice (some ⟨bi, 0, none⟩) 2 2, .int .u64 64, .slice none 0 0, .slice none 0 0, .int .u64 0] 114 (0, 0)) ∧
  w.heap[br]? = some (.cells #[.int .u64 f, .int .u64 0, .int .u64 l, .int .u64 0] 108 (0, 0)) ∧ w.heap[bi]? = some (.cells #[.int .u32 0, .int .u32 1] 22 (0, 0))
theorem ListAt.nw {w w' : World} {bl br bi : Nat} {f l : Int} (h : ListAt w bl br bi f l) (k : Nw w w') : ListAt w' bl br bi f l := ⟨blk_nw h.1 k, blk_nw h.2.1 k, blk_nw h.2.2 k⟩

theorem wpQuiet_take {P : Program} {ops : Array Oper} {C : World → Prop} {Q : Act → Prop} {a : Act} {o : Oper} {rest : List Oper} (v : Value) (h : Region.wanted o (yielded ops a.tmps) = true) (hv : ∀ w, C w → o.quietAt P a C w v) (k : wpQuiet P ops C Q rest (a.put o.dst v)) : wpQuiet P ops C Q (o :: rest) a := by
  unfold wpQuiet
  rw [if_pos h]
  exact ⟨v, hv, k⟩
theorem wpQuiet_skip {P : Program} {ops : Array Oper} {C : World → Prop} {Q : Act → Prop} {a : Act} {o : Oper} {rest : List Oper} (h : Region.wanted o (yielded ops a.tmps) = false) (k : wpQuiet P ops C Q rest (a.put o.dst undef)) : wpQuiet P ops C Q (o :: rest) a := by
  unfold wpQuiet
  rw [if_neg (by rw [h]; decide)]
  exact k
/-- A shut box: no tactic unfolds what lies in it. -/
structure Box (p : Prop) : Prop where
  out : p
theorem boxTake {P : Program} {ops : Array Oper} {C : World → Prop} {Q : Act → Prop} {a : Act} {o : Oper} {rest : List Oper} (v : Value) (h : Region.wanted o (yielded ops a.tmps) = true) (hv : ∀ w, C w → o.quietAt P a C w v) (k : Box (wpQuiet P ops C Q rest (a.put o.dst v))) : Box (wpQuiet P ops C Q (o :: rest) a) := ⟨wpQuiet_take v h hv k.out⟩
theorem boxSkip {P : Program} {ops : Array Oper} {C : World → Prop} {Q : Act → Prop} {a : Act} {o : Oper} {rest : List Oper} (h : Region.wanted o (yielded ops a.tmps) = false) (k : Box (wpQuiet P ops C Q rest (a.put o.dst undef))) : Box (wpQuiet P ops C Q (o :: rest) a) := ⟨wpQuiet_skip h k.out⟩
theorem boxNil {P : Program} {ops : Array Oper} {C : World → Prop} {Q : Act → Prop} {a : Act} (h : Q a) : Box (wpQuiet P ops C Q [] a) := ⟨wpQuiet_nil h⟩
theorem wp_region_box {id : Nat} {Q : Exit → Act → World → Prop} {a : Act} {w : World} {l : List Oper} (hB : Region.lexB .any l.toArray = true)
    (h : Box (wpQuiet Ybaz.prog l.toArray (Nw w) (fun a' => ∀ w', Nw w w' → Q .normal a' w') l a)) : (Code.region id l.toArray true).wp Ybaz.prog Q a w := wp_region_nw hB h.out
theorem eqNil (bi : Nat) (w : World) : Sem.run Ybaz.prog (binOp .eql 110 (.slice (some ⟨bi, 0, none⟩) 2 2) (.slice none 0 0)) w = .ok (.bool false) w := by kernel_rfl
set_option maxRecDepth 100000 in
set_option maxHeartbeats 1600000 in
theorem holding_any (bl br bi : Nat) (f l x : Int) (w : World) (hl : ListAt w bl br bi f l) (hx0 : 0 ≤ x) (hx1 : x < 18446744073709551616) :
    Calls Ybaz.prog 42 #[.pointer (some ⟨bl, 0, none⟩), .agg #[.int .u64 x, .int .u64 0]] w fun e w' => ∃ f0 f1 l0 l1 : Int, e = .returned (.tuple #[.agg #[.int .u64 f0, .int .u64 f1, .int .u64 l0, .int .u64 l1], .bool (decide (f ≤ x ∧ x ≤ l))]) ∧ Nw w w' := by
  obtain ⟨bb, hbb⟩ : ∃ bb, bb = decide (f ≤ x ∧ x ≤ l) := ⟨_, rfl⟩
  rw [← hbb]
  have HBB : Hid (bb = decide (f ≤ x ∧ x ≤ l)) := hbb
  clear hbb
  have L0 : Hid (ListAt w bl br bi f l) := hl
  have a0 := blk_cell hl.1
  have a1 := blk_cell hl.2.2
  clear hl
  have hbl := lt_of_block L0.out.1
  have hbl1 : bl < w.heap.size + 1 := by omega
  have hbl2 : bl < w.heap.size + 1 + 1 := by omega
  have hbn1 : bl ≠ w.heap.size := by omega
  have hbn2 : bl ≠ w.heap.size + 1 := by omega
  have hbn3 : bl ≠ w.heap.size + 1 + 1 := by omega
  have en := eqNil bi
  have hw1 : IntKind.i64.wrap 1 = 1 := by rw [IntKind.wrap_i64]; rfl
  have hwu : IntKind.u64.wrap 1 = 1 := by rw [IntKind.wrap_u64]; rfl
  go_enter Ybaz.func42, Ybaz.ntmps42
  go_wp2_with fail
  obtain ⟨w1, hw1⟩ : ∃ w1, w1 = ((w.alloc (.cells #[.pointer (some ⟨bl, 0, none⟩)] 135)).alloc (.cells #[.int .u64 x, .int .u64 0] 106)).alloc (.cells #[.int .u64 0, .int .u64 0, .int .u64 0, .int .u64 0] 108) := ⟨_, rfl⟩
  have N1 : Hid (Nw w w1) := hw1 ▸ ((((Nw.refl w).alloc _).alloc _).alloc _)
  have B0 : Hid (w1.heap[w.heap.size]? = some (.cells #[.pointer (some ⟨bl, 0, none⟩)] 135 (0, 0))) := hw1 ▸ blk_alloc (blk_alloc (blk_new rfl) _) _
  have B1 : Hid (w1.heap[w.heap.size + 1]? = some (.cells #[.int .u64 x, .int .u64 0] 106 (0, 0))) := hw1 ▸ blk_alloc (blk_new (by simp)) _
  have B2 : Hid (w1.heap[w.heap.size + 1 + 1]? = some (.cells #[.int .u64 0, .int .u64 0, .int .u64 0, .int .u64 0] 108 (0, 0))) := hw1 ▸ blk_new (by simp)
  rw [← hw1]
  clear hw1
  have k0 := fun (w' : World) (h : Nw w1 w') (i : Nat) => blk_cell (blk_nw B0.out h) i
  have k1 := fun (w' : World) (h : Nw w1 w') (i : Nat) => blk_cell (blk_nw B1.out h) i
  have k2 := fun (w' : World) (h : Nw w1 w') (i : Nat) => blk_cell (L0.out.nw (N1.out.trans h)).1 i
  refine wp_region_nw (by kernel_rfl) ?_
  repeat (
    refine wpQuiet_step (fun K hK => ?_)
    rw [if_pos (by rfl)]
    apply Exists.intro
    refine ⟨fun w' h' => ?_, hK _ ?_⟩
    (have q0 := k0 w' h'
     have q1 := k1 w' h'
     have q2 := k2 w' h'
     have HN : Hid (Nw w1 w') := h'
     go_simp
     first
       | done
       | with_reducible rfl)
    clear hK K
    try (simp only [Act.put, List.setIfInBounds_toArray, List.set_cons_zero, List.set_cons_succ]))
  refine wpQuiet_nil ?_
  intro w2 h2
  have N2 : Hid (Nw w w2) := N1.out.trans h2
  have C0 : Hid (w2.heap[w.heap.size]? = some (.cells #[.pointer (some ⟨bl, 0, none⟩)] 135 (0, 0))) := blk_nw B0.out h2
  have C1 : Hid (w2.heap[w.heap.size + 1]? = some (.cells #[.int .u64 x, .int .u64 0] 106 (0, 0))) := blk_nw B1.out h2
  have C2 : Hid (w2.heap[w.heap.size + 1 + 1]? = some (.cells #[.int .u64 0, .int .u64 0, .int .u64 0, .int .u64 0] 108 (0, 0))) := blk_nw B2.out h2
  clear k0 k1 k2 h2 B0 B1 B2 N1
  go_simp
  rw [show x / 18446744073709551616 = 0 by omega]
  clear a0 a1
  go_wp2_with fail
  have s0 : w2.cell? ⟨w.heap.size, 0, none⟩ = some (.pointer (some ⟨bl, 0, none⟩)) := blk_cell C0.out 0
  have s1 : w2.cell? ⟨bl, 1, none⟩ = some (.slice (some ⟨bi, 0, none⟩) 2 2) := blk_cell (L0.out.nw N2.out).1 1
  have s2 : w2.cell? ⟨bi, 0, none⟩ = some (.int .u32 0) := blk_cell (L0.out.nw N2.out).2.2 0
  have s3 : w2.cell? ⟨bi, 1, none⟩ = some (.int .u32 1) := blk_cell (L0.out.nw N2.out).2.2 1
  have t0 := World.new_ne w2 _ s0
  have t1 := World.new_ne w2 _ s1
  have t2 := World.new_ne w2 _ s2
  go_cut [7, 8] from 16 (fun s7 s8 wx => s7 = .pointer (some ⟨w2.heap.size, 0, none⟩) ∧ s8 = .int .i64 1 ∧ Hid (wx.heap[w2.heap.size]? = some (.cells #[.int .i64 0] 3 (0, 0)) ∧ Nw w2 wx))
  case first =>
    go_region_held3 (fun wx => wx.cell? ⟨w.heap.size, 0, none⟩ = some (.pointer (some ⟨bl, 0, none⟩)) ∧ wx.cell? ⟨bl, 1, none⟩ = some (.slice (some ⟨bi, 0, none⟩) 2 2) ∧ wx.cell? ⟨bi, 0, none⟩ = some (.int .u32 0) ∧ wx.cell? ⟨bi, 1, none⟩ = some (.int .u32 1)) (go_keep) (fail)
    all_goals (try simp only [hw1])
    all_goals (go_wp2_with fail; go_meet; case rel => exact ⟨rfl, rfl, blk_drew (blk_new rfl), ((Nw.refl _).alloc _).drew⟩)
  case rest =>
    obtain ⟨rfl, rfl, HB⟩ := hcut
    have hbo : w.heap.size + 1 + 1 < w2.heap.size := lt_of_block C2.out
    generalize w2.heap.size = bo at HB hbo ⊢
    have DN : Hid (Nw w wc) := N2.out.trans HB.out.2
    have D0 : Hid (wc.heap[w.heap.size]? = some (.cells #[.pointer (some ⟨bl, 0, none⟩)] 135 (0, 0))) := blk_nw C0.out HB.out.2
    have D1 : Hid (wc.heap[w.heap.size + 1]? = some (.cells #[.int .u64 x, .int .u64 0] 106 (0, 0))) := blk_nw C1.out HB.out.2
    have D2 : Hid (wc.heap[w.heap.size + 1 + 1]? = some (.cells #[.int .u64 0, .int .u64 0, .int .u64 0, .int .u64 0] 108 (0, 0))) := blk_nw C2.out HB.out.2
    have D3 : Hid (wc.heap[bo]? = some (.cells #[.int .i64 0] 3 (0, 0))) := HB.out.1
    clear HB C0 C1 C2 N2 s0 s1 s2 s3
    have hle : w.heap.size ≤ w.heap.size + 1 + 1 := by omega
    have HC : Hid (∀ w', Nw wc w' → Calls Ybaz.prog 55 #[.int .i64 0, .pointer (some ⟨w.heap.size + 1, 0, none⟩), .pointer (some ⟨w.heap.size, 0, none⟩), .pointer (some ⟨bo, 0, none⟩)] w' fun e w'' => e = .returned (.bool (decide (x < f))) ∧ Nw w' w'') := fun w' h =>
      clos_any (w.heap.size + 1) w.heap.size bo br bl x f w' (blk_cell (blk_nw D1.out h) 0) (blk_cell (blk_nw D1.out h) 1) (blk_cell (blk_nw D0.out h) 0) (blk_cell (L0.out.nw (DN.out.trans h)).1 0) (blk_cell (blk_nw D3.out h) 0) (blk_cell (L0.out.nw (DN.out.trans h)).2.1 0) (blk_cell (L0.out.nw (DN.out.trans h)).2.1 1)
    have HS : Hid (∀ w', Nw wc w' → Calls Ybaz.prog 54 #[.int .i64 1, .func (.func 55) #[] #[.pointer (some ⟨w.heap.size + 1, 0, none⟩), .pointer (some ⟨w.heap.size, 0, none⟩), .pointer (some ⟨bo, 0, none⟩)]] w' fun e w'' => e = .returned (.int .i64 (if decide (x < f) = true then 0 else 1)) ∧ Nw w' w'') := fun w' h => search_one _ _ _ _ w' (fun w'' k => HC.out w'' (h.trans k))
    have HL : Hid (∀ w, Calls Ybaz.prog 56 #[.agg #[.int .u64 l, .int .u64 0], .agg #[.int .u64 x, .int .u64 0]] w fun e w' => e = .returned (.bool (decide (l < x))) ∧ Nw w w') := fun w => less_zero l x w
    clear HC
    have hw0 : IntKind.i64.wrap 0 = 0 := by rw [IntKind.wrap_i64]; rfl
    have k0 := fun (w' : World) (h : Nw wc w') (i : Nat) => blk_cell (blk_nw D0.out h) i
    have k1 := fun (w' : World) (h : Nw wc w') (i : Nat) => blk_cell (blk_nw D1.out h) i
    have k2 := fun (w' : World) (h : Nw wc w') (i : Nat) => blk_cell (L0.out.nw (DN.out.trans h)).1 i
    have k3 := fun (w' : World) (h : Nw wc w') (i : Nat) => blk_cell (L0.out.nw (DN.out.trans h)).2.1 i
    have k4 := fun (w' : World) (h : Nw wc w') (i : Nat) => blk_cell (blk_nw D3.out h) i
    by_cases hxf : x < f
    · rw [decide_eq_true hxf, if_pos rfl] at HS
      obtain rfl : bb = false := by rw [HBB.out]; exact decide_eq_false (by omega)
      clear hxf HBB
      go_wp2_with fail
      refine wp_region_nw (by kernel_rfl) ?_
      repeat (
        refine wpQuiet_step (fun K hK => ?_)
        first
          | (rw [if_pos (by rfl)]
             apply Exists.intro
             refine ⟨fun w' h' => ?_, hK _ ?_⟩
             (have q0 := k0 w' h'
              have q1 := k1 w' h'
              have q2 := k2 w' h'
              have q3 := k3 w' h'
              have q4 := k4 w' h'
              have HN : Hid (Nw wc w') := h'
              go_simp
              first
                | done
                | (go_at_call 54; exact (HS.out _ HN.out).mono fun e w'' h => ⟨h.1, HN.out.trans h.2⟩)
                | with_reducible rfl)
             clear hK K
             try (simp only [Act.put, List.setIfInBounds_toArray, List.set_cons_zero, List.set_cons_succ]))
          | (go_simp
             refine hK _ ?_
             clear hK K))
      refine wpQuiet_nil ?_
      intro w4 h4
      have FN : Hid (Nw w w4) := DN.out.trans h4
      have F0 : Hid (w4.heap[w.heap.size]? = some (.cells #[.pointer (some ⟨bl, 0, none⟩)] 135 (0, 0))) := blk_nw D0.out h4
      have F1 : Hid (w4.heap[w.heap.size + 1]? = some (.cells #[.int .u64 x, .int .u64 0] 106 (0, 0))) := blk_nw D1.out h4
      have F2 : Hid (w4.heap[w.heap.size + 1 + 1]? = some (.cells #[.int .u64 0, .int .u64 0, .int .u64 0, .int .u64 0] 108 (0, 0))) := blk_nw D2.out h4
      have F3 : Hid (w4.heap[bo]? = some (.cells #[.int .i64 0] 3 (0, 0))) := blk_nw D3.out h4
      clear k0 k1 k2 k3 k4 h4 D0 D1 D2 D3 DN
      have k0 := fun (w' : World) (h : Nw w4 w') (i : Nat) => blk_cell (blk_nw F0.out h) i
      have k1 := fun (w' : World) (h : Nw w4 w') (i : Nat) => blk_cell (blk_nw F1.out h) i
      have k2 := fun (w' : World) (h : Nw w4 w') (i : Nat) => blk_cell (L0.out.nw (FN.out.trans h)).1 i
      have k3 := fun (w' : World) (h : Nw w4 w') (i : Nat) => blk_cell (L0.out.nw (FN.out.trans h)).2.1 i
      have k4 := fun (w' : World) (h : Nw w4 w') (i : Nat) => blk_cell (blk_nw F3.out h) i
      go_simp
      go_wp2_with fail
      refine wp_region_box (by kernel_rfl) ?_
      refine boxTake (.int .i64 0) (by kernel_rfl) ?_ ?_
      · intro wx hx
        have q0 := k0 wx hx
        have q1 := k1 wx hx
        have q2 := k2 wx hx
        have q3 := k3 wx hx
        have q4 := k4 wx hx
        have HN : Hid (Nw w4 wx) := hx
        clear hx
        go_simp
      simp only [Act.put, List.setIfInBounds_toArray, List.set_cons_zero, List.set_cons_succ]
      refine boxTake (.bool true) (by kernel_rfl) ?_ ?_
      · intro wx hx
        have q0 := k0 wx hx
        have q1 := k1 wx hx
        have q2 := k2 wx hx
        have q3 := k3 wx hx
        have q4 := k4 wx hx
        have HN : Hid (Nw w4 wx) := hx
        clear hx
        go_simp
      simp only [Act.put, List.setIfInBounds_toArray, List.set_cons_zero, List.set_cons_succ]
      refine boxTake (.bool true) (by kernel_rfl) ?_ ?_
      · intro wx hx
        have q0 := k0 wx hx
        have q1 := k1 wx hx
        have q2 := k2 wx hx
        have q3 := k3 wx hx
        have q4 := k4 wx hx
        have HN : Hid (Nw w4 wx) := hx
        clear hx
        go_simp
      simp only [Act.put, List.setIfInBounds_toArray, List.set_cons_zero, List.set_cons_succ]
      refine boxSkip (by kernel_rfl) ?_
      simp only [Act.put, List.setIfInBounds_toArray, List.set_cons_zero, List.set_cons_succ]
      refine boxSkip (by kernel_rfl) ?_
      simp only [Act.put, List.setIfInBounds_toArray, List.set_cons_zero, List.set_cons_succ]
      refine boxSkip (by kernel_rfl) ?_
      simp only [Act.put, List.setIfInBounds_toArray, List.set_cons_zero, List.set_cons_succ]
      refine boxSkip (by kernel_rfl) ?_
      simp only [Act.put, List.setIfInBounds_toArray, List.set_cons_zero, List.set_cons_succ]
      refine boxSkip (by kernel_rfl) ?_
      simp only [Act.put, List.setIfInBounds_toArray, List.set_cons_zero, List.set_cons_succ]
      refine boxSkip (by kernel_rfl) ?_
      simp only [Act.put, List.setIfInBounds_toArray, List.set_cons_zero, List.set_cons_succ]
      refine boxSkip (by kernel_rfl) ?_
      simp only [Act.put, List.setIfInBounds_toArray, List.set_cons_zero, List.set_cons_succ]
      refine boxSkip (by kernel_rfl) ?_
      simp only [Act.put, List.setIfInBounds_toArray, List.set_cons_zero, List.set_cons_succ]
      refine boxSkip (by kernel_rfl) ?_
      simp only [Act.put, List.setIfInBounds_toArray, List.set_cons_zero, List.set_cons_succ]
      refine boxSkip (by kernel_rfl) ?_
      simp only [Act.put, List.setIfInBounds_toArray, List.set_cons_zero, List.set_cons_succ]
      refine boxSkip (by kernel_rfl) ?_
      simp only [Act.put, List.setIfInBounds_toArray, List.set_cons_zero, List.set_cons_succ]
      refine boxTake (.bool true) (by kernel_rfl) ?_ ?_
      · intro wx hx
        have q0 := k0 wx hx
        have q1 := k1 wx hx
        have q2 := k2 wx hx
        have q3 := k3 wx hx
        have q4 := k4 wx hx
        have HN : Hid (Nw w4 wx) := hx
        clear hx
        go_simp
      simp only [Act.put, List.setIfInBounds_toArray, List.set_cons_zero, List.set_cons_succ]
      refine boxNil ?_
      intro w5 h5
      have GN : Hid (Nw w w5) := FN.out.trans h5
      have G0 : Hid (w5.heap[w.heap.size]? = some (.cells #[.pointer (some ⟨bl, 0, none⟩)] 135 (0, 0))) := blk_nw F0.out h5
      have G1 : Hid (w5.heap[w.heap.size + 1]? = some (.cells #[.int .u64 x, .int .u64 0] 106 (0, 0))) := blk_nw F1.out h5
      have G2 : Hid (w5.heap[w.heap.size + 1 + 1]? = some (.cells #[.int .u64 0, .int .u64 0, .int .u64 0, .int .u64 0] 108 (0, 0))) := blk_nw F2.out h5
      have G3 : Hid (w5.heap[bo]? = some (.cells #[.int .i64 0] 3 (0, 0))) := blk_nw F3.out h5
      clear k0 k1 k2 k3 k4 h5 F0 F1 F2 F3 FN
      have k0 := blk_cell G2.out
      have f0 := blk_free G2.out
      go_simp
      go_wp2_with fail
      refine bodyPost_ret (v := .tuple #[.agg #[.int .u64 0, .int .u64 0, .int .u64 0, .int .u64 0], .bool false]) (by simp [results, Ybaz.results42, go_sem, k0]) rfl ⟨_, _, _, _, rfl, (((GN.out.set hle _).set hle _).set hle _).set hle _⟩
    · rw [decide_eq_false hxf, if_neg (by decide)] at HS
      go_wp2_with fail
      refine wp_region_nw (by kernel_rfl) ?_
      repeat (
        refine wpQuiet_step (fun K hK => ?_)
        first
          | (rw [if_pos (by rfl)]
             apply Exists.intro
             refine ⟨fun w' h' => ?_, hK _ ?_⟩
             (have q0 := k0 w' h'
              have q1 := k1 w' h'
              have q2 := k2 w' h'
              have q3 := k3 w' h'
              have q4 := k4 w' h'
              have HN : Hid (Nw wc w') := h'
              go_simp
              first
                | done
                | (go_at_call 54; exact (HS.out _ HN.out).mono fun e w'' h => ⟨h.1, HN.out.trans h.2⟩)
                | with_reducible rfl)
             clear hK K
             try (simp only [Act.put, List.setIfInBounds_toArray, List.set_cons_zero, List.set_cons_succ]))
          | (go_simp
             refine hK _ ?_
             clear hK K))
      refine wpQuiet_nil ?_
      intro w4 h4
      have FN : Hid (Nw w w4) := DN.out.trans h4
      have F0 : Hid (w4.heap[w.heap.size]? = some (.cells #[.pointer (some ⟨bl, 0, none⟩)] 135 (0, 0))) := blk_nw D0.out h4
      have F1 : Hid (w4.heap[w.heap.size + 1]? = some (.cells #[.int .u64 x, .int .u64 0] 106 (0, 0))) := blk_nw D1.out h4
      have F2 : Hid (w4.heap[w.heap.size + 1 + 1]? = some (.cells #[.int .u64 0, .int .u64 0, .int .u64 0, .int .u64 0] 108 (0, 0))) := blk_nw D2.out h4
      have F3 : Hid (w4.heap[bo]? = some (.cells #[.int .i64 0] 3 (0, 0))) := blk_nw D3.out h4
      clear k0 k1 k2 k3 k4 h4 D0 D1 D2 D3 DN
      have k0 := fun (w' : World) (h : Nw w4 w') (i : Nat) => blk_cell (blk_nw F0.out h) i
      have k1 := fun (w' : World) (h : Nw w4 w') (i : Nat) => blk_cell (blk_nw F1.out h) i
      have k2 := fun (w' : World) (h : Nw w4 w') (i : Nat) => blk_cell (L0.out.nw (FN.out.trans h)).1 i
      have k3 := fun (w' : World) (h : Nw w4 w') (i : Nat) => blk_cell (L0.out.nw (FN.out.trans h)).2.1 i
      have k4 := fun (w' : World) (h : Nw w4 w') (i : Nat) => blk_cell (blk_nw F3.out h) i
      go_simp
      go_wp2_with fail
      by_cases hlx : l < x
      · rw [decide_eq_true hlx] at HL
        obtain rfl : bb = false := by rw [HBB.out]; exact decide_eq_false (by omega)
        clear hlx hxf HBB
        refine wp_region_box (by kernel_rfl) ?_
        refine boxTake (.int .i64 1) (by kernel_rfl) ?_ ?_
        · intro wx hx
          have q0 := k0 wx hx
          have q1 := k1 wx hx
          have q2 := k2 wx hx
          have q3 := k3 wx hx
          have q4 := k4 wx hx
          have HN : Hid (Nw w4 wx) := hx
          clear hx
          go_simp
        simp only [Act.put, List.setIfInBounds_toArray, List.set_cons_zero, List.set_cons_succ]
        refine boxTake (.bool false) (by kernel_rfl) ?_ ?_
        · intro wx hx
          have q0 := k0 wx hx
          have q1 := k1 wx hx
          have q2 := k2 wx hx
          have q3 := k3 wx hx
          have q4 := k4 wx hx
          have HN : Hid (Nw w4 wx) := hx
          clear hx
          go_simp
        simp only [Act.put, List.setIfInBounds_toArray, List.set_cons_zero, List.set_cons_succ]
        refine boxTake (.bool false) (by kernel_rfl) ?_ ?_
        · intro wx hx
          have q0 := k0 wx hx
          have q1 := k1 wx hx
          have q2 := k2 wx hx
          have q3 := k3 wx hx
          have q4 := k4 wx hx
          have HN : Hid (Nw w4 wx) := hx
          clear hx
          go_simp
        simp only [Act.put, List.setIfInBounds_toArray, List.set_cons_zero, List.set_cons_succ]
        refine boxTake (.pointer (some ⟨bl, 0, none⟩)) (by kernel_rfl) ?_ ?_
        · intro wx hx
          have q0 := k0 wx hx
          have q1 := k1 wx hx
          have q2 := k2 wx hx
          have q3 := k3 wx hx
          have q4 := k4 wx hx
          have HN : Hid (Nw w4 wx) := hx
          clear hx
          go_simp
        simp only [Act.put, List.setIfInBounds_toArray, List.set_cons_zero, List.set_cons_succ]
        refine boxTake (.pointer (some ⟨bl, 0, none⟩)) (by kernel_rfl) ?_ ?_
        · intro wx hx
          have q0 := k0 wx hx
          have q1 := k1 wx hx
          have q2 := k2 wx hx
          have q3 := k3 wx hx
          have q4 := k4 wx hx
          have HN : Hid (Nw w4 wx) := hx
          clear hx
          go_simp
        simp only [Act.put, List.setIfInBounds_toArray, List.set_cons_zero, List.set_cons_succ]
        refine boxTake (.pointer (some ⟨bl, 0, none⟩)) (by kernel_rfl) ?_ ?_
        · intro wx hx
          have q0 := k0 wx hx
          have q1 := k1 wx hx
          have q2 := k2 wx hx
          have q3 := k3 wx hx
          have q4 := k4 wx hx
          have HN : Hid (Nw w4 wx) := hx
          clear hx
          go_simp
        simp only [Act.put, List.setIfInBounds_toArray, List.set_cons_zero, List.set_cons_succ]
        refine boxTake (.slice (some ⟨br, 0, none⟩) 1 1) (by kernel_rfl) ?_ ?_
        · intro wx hx
          have q0 := k0 wx hx
          have q1 := k1 wx hx
          have q2 := k2 wx hx
          have q3 := k3 wx hx
          have q4 := k4 wx hx
          have HN : Hid (Nw w4 wx) := hx
          clear hx
          go_simp
        simp only [Act.put, List.setIfInBounds_toArray, List.set_cons_zero, List.set_cons_succ]
        refine boxTake (.int .i64 1) (by kernel_rfl) ?_ ?_
        · intro wx hx
          have q0 := k0 wx hx
          have q1 := k1 wx hx
          have q2 := k2 wx hx
          have q3 := k3 wx hx
          have q4 := k4 wx hx
          have HN : Hid (Nw w4 wx) := hx
          clear hx
          go_simp
        simp only [Act.put, List.setIfInBounds_toArray, List.set_cons_zero, List.set_cons_succ]
        refine boxTake (.int .i64 0) (by kernel_rfl) ?_ ?_
        · intro wx hx
          have q0 := k0 wx hx
          have q1 := k1 wx hx
          have q2 := k2 wx hx
          have q3 := k3 wx hx
          have q4 := k4 wx hx
          have HN : Hid (Nw w4 wx) := hx
          clear hx
          go_simp
        simp only [Act.put, List.setIfInBounds_toArray, List.set_cons_zero, List.set_cons_succ]
        refine boxTake (.pointer (some ⟨br, 0, none⟩)) (by kernel_rfl) ?_ ?_
        · intro wx hx
          have q0 := k0 wx hx
          have q1 := k1 wx hx
          have q2 := k2 wx hx
          have q3 := k3 wx hx
          have q4 := k4 wx hx
          have HN : Hid (Nw w4 wx) := hx
          clear hx
          go_simp
        simp only [Act.put, List.setIfInBounds_toArray, List.set_cons_zero, List.set_cons_succ]
        refine boxTake (.pointer (some ⟨br, 2, none⟩)) (by kernel_rfl) ?_ ?_
        · intro wx hx
          have q0 := k0 wx hx
          have q1 := k1 wx hx
          have q2 := k2 wx hx
          have q3 := k3 wx hx
          have q4 := k4 wx hx
          have HN : Hid (Nw w4 wx) := hx
          clear hx
          go_simp
        simp only [Act.put, List.setIfInBounds_toArray, List.set_cons_zero, List.set_cons_succ]
        refine boxTake (.agg #[.int .u64 l, .int .u64 0]) (by kernel_rfl) ?_ ?_
        · intro wx hx
          have q0 := k0 wx hx
          have q1 := k1 wx hx
          have q2 := k2 wx hx
          have q3 := k3 wx hx
          have q4 := k4 wx hx
          have HN : Hid (Nw w4 wx) := hx
          clear hx
          go_simp
        simp only [Act.put, List.setIfInBounds_toArray, List.set_cons_zero, List.set_cons_succ]
        refine boxTake (.agg #[.int .u64 x, .int .u64 0]) (by kernel_rfl) ?_ ?_
        · intro wx hx
          have q0 := k0 wx hx
          have q1 := k1 wx hx
          have q2 := k2 wx hx
          have q3 := k3 wx hx
          have q4 := k4 wx hx
          have HN : Hid (Nw w4 wx) := hx
          clear hx
          go_simp
        simp only [Act.put, List.setIfInBounds_toArray, List.set_cons_zero, List.set_cons_succ]
        refine boxTake (.bool true) (by kernel_rfl) ?_ ?_
        · intro wx hx
          have q0 := k0 wx hx
          have q1 := k1 wx hx
          have q2 := k2 wx hx
          have q3 := k3 wx hx
          have q4 := k4 wx hx
          have HN : Hid (Nw w4 wx) := hx
          clear hx
          go_simp
          exact (HL.out _).mono fun e w'' h => ⟨h.1, HN.out.trans h.2⟩
        simp only [Act.put, List.setIfInBounds_toArray, List.set_cons_zero, List.set_cons_succ]
        refine boxTake (.bool true) (by kernel_rfl) ?_ ?_
        · intro wx hx
          have q0 := k0 wx hx
          have q1 := k1 wx hx
          have q2 := k2 wx hx
          have q3 := k3 wx hx
          have q4 := k4 wx hx
          have HN : Hid (Nw w4 wx) := hx
          clear hx
          go_simp
        simp only [Act.put, List.setIfInBounds_toArray, List.set_cons_zero, List.set_cons_succ]
        refine boxNil ?_
        intro w5 h5
        have GN : Hid (Nw w w5) := FN.out.trans h5
        have G0 : Hid (w5.heap[w.heap.size]? = some (.cells #[.pointer (some ⟨bl, 0, none⟩)] 135 (0, 0))) := blk_nw F0.out h5
        have G1 : Hid (w5.heap[w.heap.size + 1]? = some (.cells #[.int .u64 x, .int .u64 0] 106 (0, 0))) := blk_nw F1.out h5
        have G2 : Hid (w5.heap[w.heap.size + 1 + 1]? = some (.cells #[.int .u64 0, .int .u64 0, .int .u64 0, .int .u64 0] 108 (0, 0))) := blk_nw F2.out h5
        have G3 : Hid (w5.heap[bo]? = some (.cells #[.int .i64 0] 3 (0, 0))) := blk_nw F3.out h5
        clear k0 k1 k2 k3 k4 h5 F0 F1 F2 F3 FN
        have k0 := blk_cell G2.out
        have f0 := blk_free G2.out
        go_simp
        go_wp2_with fail
        refine bodyPost_ret (v := .tuple #[.agg #[.int .u64 0, .int .u64 0, .int .u64 0, .int .u64 0], .bool false]) (by simp [results, Ybaz.results42, go_sem, k0]) rfl ⟨_, _, _, _, rfl, (((GN.out.set hle _).set hle _).set hle _).set hle _⟩
      · rw [decide_eq_false hlx] at HL
        obtain rfl : bb = true := by rw [HBB.out]; exact decide_eq_true (by omega)
        clear hlx hxf HBB
        refine wp_region_box (by kernel_rfl) ?_
        refine boxTake (.int .i64 1) (by kernel_rfl) ?_ ?_
        · intro wx hx
          have q0 := k0 wx hx
          have q1 := k1 wx hx
          have q2 := k2 wx hx
          have q3 := k3 wx hx
          have q4 := k4 wx hx
          have HN : Hid (Nw w4 wx) := hx
          clear hx
          go_simp
        simp only [Act.put, List.setIfInBounds_toArray, List.set_cons_zero, List.set_cons_succ]
        refine boxTake (.bool false) (by kernel_rfl) ?_ ?_
        · intro wx hx
          have q0 := k0 wx hx
          have q1 := k1 wx hx
          have q2 := k2 wx hx
          have q3 := k3 wx hx
          have q4 := k4 wx hx
          have HN : Hid (Nw w4 wx) := hx
          clear hx
          go_simp
        simp only [Act.put, List.setIfInBounds_toArray, List.set_cons_zero, List.set_cons_succ]
        refine boxTake (.bool false) (by kernel_rfl) ?_ ?_
        · intro wx hx
          have q0 := k0 wx hx
          have q1 := k1 wx hx
          have q2 := k2 wx hx
          have q3 := k3 wx hx
          have q4 := k4 wx hx
          have HN : Hid (Nw w4 wx) := hx
          clear hx
          go_simp
        simp only [Act.put, List.setIfInBounds_toArray, List.set_cons_zero, List.set_cons_succ]
        refine boxTake (.pointer (some ⟨bl, 0, none⟩)) (by kernel_rfl) ?_ ?_
        · intro wx hx
          have q0 := k0 wx hx
          have q1 := k1 wx hx
          have q2 := k2 wx hx
          have q3 := k3 wx hx
          have q4 := k4 wx hx
          have HN : Hid (Nw w4 wx) := hx
          clear hx
          go_simp
        simp only [Act.put, List.setIfInBounds_toArray, List.set_cons_zero, List.set_cons_succ]
        refine boxTake (.pointer (some ⟨bl, 0, none⟩)) (by kernel_rfl) ?_ ?_
        · intro wx hx
          have q0 := k0 wx hx
          have q1 := k1 wx hx
          have q2 := k2 wx hx
          have q3 := k3 wx hx
          have q4 := k4 wx hx
          have HN : Hid (Nw w4 wx) := hx
          clear hx
          go_simp
        simp only [Act.put, List.setIfInBounds_toArray, List.set_cons_zero, List.set_cons_succ]
        refine boxTake (.pointer (some ⟨bl, 0, none⟩)) (by kernel_rfl) ?_ ?_
        · intro wx hx
          have q0 := k0 wx hx
          have q1 := k1 wx hx
          have q2 := k2 wx hx
          have q3 := k3 wx hx
          have q4 := k4 wx hx
          have HN : Hid (Nw w4 wx) := hx
          clear hx
          go_simp
        simp only [Act.put, List.setIfInBounds_toArray, List.set_cons_zero, List.set_cons_succ]
        refine boxTake (.slice (some ⟨br, 0, none⟩) 1 1) (by kernel_rfl) ?_ ?_
        · intro wx hx
          have q0 := k0 wx hx
          have q1 := k1 wx hx
          have q2 := k2 wx hx
          have q3 := k3 wx hx
          have q4 := k4 wx hx
          have HN : Hid (Nw w4 wx) := hx
          clear hx
          go_simp
        simp only [Act.put, List.setIfInBounds_toArray, List.set_cons_zero, List.set_cons_succ]
        refine boxTake (.int .i64 1) (by kernel_rfl) ?_ ?_
        · intro wx hx
          have q0 := k0 wx hx
          have q1 := k1 wx hx
          have q2 := k2 wx hx
          have q3 := k3 wx hx
          have q4 := k4 wx hx
          have HN : Hid (Nw w4 wx) := hx
          clear hx
          go_simp
        simp only [Act.put, List.setIfInBounds_toArray, List.set_cons_zero, List.set_cons_succ]
        refine boxTake (.int .i64 0) (by kernel_rfl) ?_ ?_
        · intro wx hx
          have q0 := k0 wx hx
          have q1 := k1 wx hx
          have q2 := k2 wx hx
          have q3 := k3 wx hx
          have q4 := k4 wx hx
          have HN : Hid (Nw w4 wx) := hx
          clear hx
          go_simp
        simp only [Act.put, List.setIfInBounds_toArray, List.set_cons_zero, List.set_cons_succ]
        refine boxTake (.pointer (some ⟨br, 0, none⟩)) (by kernel_rfl) ?_ ?_
        · intro wx hx
          have q0 := k0 wx hx
          have q1 := k1 wx hx
          have q2 := k2 wx hx
          have q3 := k3 wx hx
          have q4 := k4 wx hx
          have HN : Hid (Nw w4 wx) := hx
          clear hx
          go_simp
        simp only [Act.put, List.setIfInBounds_toArray, List.set_cons_zero, List.set_cons_succ]
        refine boxTake (.pointer (some ⟨br, 2, none⟩)) (by kernel_rfl) ?_ ?_
        · intro wx hx
          have q0 := k0 wx hx
          have q1 := k1 wx hx
          have q2 := k2 wx hx
          have q3 := k3 wx hx
          have q4 := k4 wx hx
          have HN : Hid (Nw w4 wx) := hx
          clear hx
          go_simp
        simp only [Act.put, List.setIfInBounds_toArray, List.set_cons_zero, List.set_cons_succ]
        refine boxTake (.agg #[.int .u64 l, .int .u64 0]) (by kernel_rfl) ?_ ?_
        · intro wx hx
          have q0 := k0 wx hx
          have q1 := k1 wx hx
          have q2 := k2 wx hx
          have q3 := k3 wx hx
          have q4 := k4 wx hx
          have HN : Hid (Nw w4 wx) := hx
          clear hx
          go_simp
        simp only [Act.put, List.setIfInBounds_toArray, List.set_cons_zero, List.set_cons_succ]
        refine boxTake (.agg #[.int .u64 x, .int .u64 0]) (by kernel_rfl) ?_ ?_
        · intro wx hx
          have q0 := k0 wx hx
          have q1 := k1 wx hx
          have q2 := k2 wx hx
          have q3 := k3 wx hx
          have q4 := k4 wx hx
          have HN : Hid (Nw w4 wx) := hx
          clear hx
          go_simp
        simp only [Act.put, List.setIfInBounds_toArray, List.set_cons_zero, List.set_cons_succ]
        refine boxTake (.bool false) (by kernel_rfl) ?_ ?_
        · intro wx hx
          have q0 := k0 wx hx
          have q1 := k1 wx hx
          have q2 := k2 wx hx
          have q3 := k3 wx hx
          have q4 := k4 wx hx
          have HN : Hid (Nw w4 wx) := hx
          clear hx
          go_simp
          exact (HL.out _).mono fun e w'' h => ⟨h.1, HN.out.trans h.2⟩
        simp only [Act.put, List.setIfInBounds_toArray, List.set_cons_zero, List.set_cons_succ]
        refine boxTake (.bool false) (by kernel_rfl) ?_ ?_
        · intro wx hx
          have q0 := k0 wx hx
          have q1 := k1 wx hx
          have q2 := k2 wx hx
          have q3 := k3 wx hx
          have q4 := k4 wx hx
          have HN : Hid (Nw w4 wx) := hx
          clear hx
          go_simp
        simp only [Act.put, List.setIfInBounds_toArray, List.set_cons_zero, List.set_cons_succ]
        refine boxNil ?_
        intro w5 h5
        have GN : Hid (Nw w w5) := FN.out.trans h5
        have G0 : Hid (w5.heap[w.heap.size]? = some (.cells #[.pointer (some ⟨bl, 0, none⟩)] 135 (0, 0))) := blk_nw F0.out h5
        have G1 : Hid (w5.heap[w.heap.size + 1]? = some (.cells #[.int .u64 x, .int .u64 0] 106 (0, 0))) := blk_nw F1.out h5
        have G2 : Hid (w5.heap[w.heap.size + 1 + 1]? = some (.cells #[.int .u64 0, .int .u64 0, .int .u64 0, .int .u64 0] 108 (0, 0))) := blk_nw F2.out h5
        have G3 : Hid (w5.heap[bo]? = some (.cells #[.int .i64 0] 3 (0, 0))) := blk_nw F3.out h5
        clear k0 k1 k2 k3 k4 h5 F0 F1 F2 F3 FN
        have m0 := blk_cell G0.out
        have m1 := blk_cell (L0.out.nw GN.out).1
        have m2 := blk_cell (L0.out.nw GN.out).2.1
        have k0 := blk_cell G2.out
        have f0 := blk_free G2.out
        go_simp
        go_wp2_with fail
        refine bodyPost_ret (v := .tuple #[.agg #[.int .u64 f, .int .u64 0, .int .u64 l, .int .u64 0], .bool true]) (by simp [results, Ybaz.results42, go_sem, k0]) rfl ⟨_, _, _, _, rfl, (((GN.out.set hle _).set hle _).set hle _).set hle _⟩
end Go.Proofs.YbulkcbheGreatDoor
