import Derived.Test.YbulkcbheGreatDoorGet
namespace Go.Proofs.YbulkcbheGreatDoor
open Go.RowKit
set_option linter.unusedVariables false
set_option linter.unusedSimpArgs false
theorem Nw.keep {w w' : World} (h : Nw w w') {b o : Nat} {v : Value} (hc : w.cell? ⟨b, o, none⟩ = some v) : w'.cell? ⟨b, o, none⟩ = some v := by
  rw [Below.cell h (p := ⟨b, o, none⟩) (World.block_lt_of_cell? _ _ hc)]; exact hc
set_option maxRecDepth 100000 in
set_option maxHeartbeats 800000 in
theorem lasting_nil (be : Nat) (n s : Int) (w : World) :
    Calls Ybaz.prog 25 #[.pointer (some ⟨be, 0, none⟩), .pointer none, .agg #[.int .u64 n, .int .i64 s, .pointer none]] w fun e w' => e = .returned (.bool false) ∧ Nw w w' := by
  go_enter Ybaz.func25, Ybaz.ntmps25
  go_wp2_with fail
  refine (lasts_nil n s _).mono ?_
  rintro e w1 ⟨rfl, hb⟩
  have HB : Hid (Nw w w1) := ((Nw.refl _).alloc _).trans hb
  clear hb
  go_wp2_with fail
  go_ret
  exact ⟨rfl, HB.out⟩

set_option maxRecDepth 100000 in
set_option maxHeartbeats 800000 in
theorem lasting_any (be bb : Nat) (n s m t n2 s2 : Int) (w : World) (h0 : 0 ≤ n) (h1 : n < 1000000000) (k0 : 0 ≤ m) (k1 : m < 1000000000) (j0 : 0 ≤ n2) (j1 : n2 < 1000000000)
    (c0 : w.cell? ⟨bb, 16, none⟩ = some (.int .u64 m)) (c1 : w.cell? ⟨bb, 17, none⟩ = some (.int .i64 t)) (c2 : w.cell? ⟨bb, 18, none⟩ = some (.pointer none))
    (d0 : w.cell? ⟨be, 21, none⟩ = some (.int .u64 n2)) (d1 : w.cell? ⟨be, 22, none⟩ = some (.int .i64 s2)) (d2 : w.cell? ⟨be, 23, none⟩ = some (.pointer none)) :
    Calls Ybaz.prog 25 #[.pointer (some ⟨be, 0, none⟩), .pointer (some ⟨bb, 0, none⟩), .agg #[.int .u64 n, .int .i64 s, .pointer none]] w fun e w' => e = .returned (.bool (decide (s * 1000000000 + n < t * 1000000000 + m) && decide (s2 * 1000000000 + n2 < t * 1000000000 + m))) ∧ Nw w w' := by
  have hbb : bb < w.heap.size := World.block_lt_of_cell? _ _ c0
  have hbe : be < w.heap.size := World.block_lt_of_cell? _ _ d0
  have L1 := fun (w' : World) (hw : Nw w w') => lasts_any bb n s m t w' h0 h1 k0 k1 (hw.keep c0) (hw.keep c1) (hw.keep c2)
  have L2 := fun (w' : World) (hw : Nw w w') => lasts_any bb n2 s2 m t w' j0 j1 k0 k1 (hw.keep c0) (hw.keep c1) (hw.keep c2)
  generalize decide (s * 1000000000 + n < t * 1000000000 + m) = r1 at L1 ⊢
  generalize decide (s2 * 1000000000 + n2 < t * 1000000000 + m) = r2 at L2 ⊢
  have HL1 : Hid _ := L1
  have HL2 : Hid _ := L2
  clear L1 L2
  go_enter Ybaz.func25, Ybaz.ntmps25
  go_wp2_with fail
  refine (HL1.out _ ((Nw.refl _).alloc _)).mono ?_
  rintro e w1 ⟨rfl, hb⟩
  have HB : Hid (Nw w w1) := ((Nw.refl _).alloc _).trans hb
  clear hb
  have d0' := HB.out.keep d0
  have d1' := HB.out.keep d1
  have d2' := HB.out.keep d2
  cases r1
  · go_wp2_with fail
    go_ret
    exact ⟨rfl, HB.out⟩
  · go_wp2_with fail
    refine (HL2.out _ HB.out).mono ?_
    rintro e w2 ⟨rfl, hb⟩
    have HB2 : Hid (Nw w w2) := HB.out.trans hb
    clear hb
    go_wp2_with fail
    go_ret
    exact ⟨by simp, HB2.out⟩

theorem mixed : Ybaz.prog.follows .mixedOrders = true := by kernel_rfl
theorem wp_region_nw {id : Nat} {Q : Exit → Act → World → Prop} {a : Act} {w : World} {l : List Oper} (hB : Region.lexB .any l.toArray = true)
    (h : wpQuiet Ybaz.prog l.toArray (Nw w) (fun a' => ∀ w', Nw w w' → Q .normal a' w') l a) : (Code.region id l.toArray true).wp Ybaz.prog Q a w :=
  wp_region_quiet (C := Nw w) mixed hB (Nw.refl w).drew (by simpa using h)

set_option maxRecDepth 100000 in
set_option maxHeartbeats 800000 in
theorem listed_any (be : Nat) (lo : Int) (p4 : Addr) (s b : Value) (rs rb : Bool) (w : World) (c0 : w.cell? ⟨be, 32, none⟩ = some s) (c1 : w.cell? ⟨be, 33, none⟩ = some b)
    (hs : ∀ w', Nw w w' → Calls Ybaz.prog 31 #[s, .agg #[.int .u64 0, .int .u64 lo, .pointer (some p4)]] w' fun e w'' => e = .returned (.bool rs) ∧ Nw w' w'')
    (hb : ∀ w', Nw w w' → Calls Ybaz.prog 31 #[b, .agg #[.int .u64 0, .int .u64 lo, .pointer (some p4)]] w' fun e w'' => e = .returned (.bool rb) ∧ Nw w' w'') :
    Calls Ybaz.prog 18 #[.pointer (some ⟨be, 0, none⟩), .agg #[.int .u64 0, .int .u64 lo, .pointer (some p4)]] w fun e w' => e = .returned (.tuple #[.bool rs, .bool rb]) ∧ Nw w w' := by
  have hbe : be < w.heap.size := World.block_lt_of_cell? _ _ c0
  have HS : Hid (∀ w', Nw w w' → Calls Ybaz.prog 31 #[s, .agg #[.int .u64 0, .int .u64 lo, .pointer (some p4)]] w' fun e w'' => e = .returned (.bool rs) ∧ Nw w' w'') := hs
  have HB : Hid (∀ w', Nw w w' → Calls Ybaz.prog 31 #[b, .agg #[.int .u64 0, .int .u64 lo, .pointer (some p4)]] w' fun e w'' => e = .returned (.bool rb) ∧ Nw w' w'') := hb
  clear hs hb
  go_enter Ybaz.func18, Ybaz.ntmps18
  go_wp2
  obtain ⟨w1, hw1⟩ : ∃ w1, w1 = w.alloc (.cells #[.int .u64 0, .int .u64 lo, .pointer (some p4)] 74) := ⟨_, rfl⟩
  have N1 : Hid (Nw w w1) := hw1 ▸ (Nw.refl w).alloc _
  have K1 : Hid (w1.heap[w.heap.size]? = some (.cells #[.int .u64 0, .int .u64 lo, .pointer (some p4)] 74 (0, 0))) := hw1 ▸ blk_new rfl
  have k0 := fun (w' : World) (h : Nw w1 w') => (N1.out.trans h).keep c0
  have k1 := fun (w' : World) (h : Nw w1 w') => (N1.out.trans h).keep c1
  have k2 := fun (w' : World) (h : Nw w1 w') (i : Nat) => blk_cell (blk_nw K1.out h) i
  rw [← hw1]
  refine wp_region_nw (by kernel_rfl) ?_
  clear hw1
  repeat (
    refine wpQuiet_step (fun K hK => ?_)
    rw [if_pos (by rfl)]
    apply Exists.intro
    refine ⟨fun w' h' => ?_, hK _ ?_⟩
    (have q0 := k0 w' h'
     have q1 := k1 w' h'
     have q2 := k2 w' h'
     have HN : Hid (Nw w1 w') := h'
     go_simp
     first
       | done
       | (go_at_call_of 31 s; exact (HS.out _ (N1.out.trans HN.out)).mono fun e w'' h => ⟨h.1, HN.out.trans h.2⟩)
       | (go_at_call_of 31 b; exact (HB.out _ (N1.out.trans HN.out)).mono fun e w'' h => ⟨h.1, HN.out.trans h.2⟩)
       | with_reducible rfl)
    clear hK K
    try (simp only [Act.put]))
  refine wpQuiet_nil ?_
  intro w2 h2
  have HF : Hid (Nw w w2) := N1.out.trans h2
  clear k0 k1 k2 h2
  go_simp
  go_wp2
  refine bodyPost_ret (v := .tuple #[.bool rs, .bool rb]) (by simp [results, Ybaz.results18, go_sem]) rfl ⟨rfl, HF.out⟩
end Go.Proofs.YbulkcbheGreatDoor
