import Derived.Test.YbulkcbheGreatDoorTime
import Derived.Test.YbulkcbheGreatDoorNetC
namespace Go.Proofs.YbulkcbheGreatDoor
open Go.RowKit
set_option linter.unusedVariables false
set_option linter.unusedSimpArgs false

theorem Nw.keep' {w w' : World} (h : Nw w w') {b o : Nat} {v : Value} (hc : w.cell? ⟨b, o, none⟩ = some v) : w'.cell? ⟨b, o, none⟩ = some v := by
  rw [Below.cell h (p := ⟨b, o, none⟩) (World.block_lt_of_cell? _ _ hc)]; exact hc
theorem mixed' : Ybaz.prog.follows .mixedOrders = true := by kernel_rfl
theorem wp_region_nw' {id : Nat} {Q : Exit → Act → World → Prop} {a : Act} {w : World} {l : List Oper} (hB : Region.lexB .any l.toArray = true)
    (h : wpQuiet Ybaz.prog l.toArray (Nw w) (fun a' => ∀ w', Nw w w' → Q .normal a' w') l a) : (Code.region id l.toArray true).wp Ybaz.prog Q a w :=
  wp_region_quiet (C := Nw w) mixed' hB (Nw.refl w).drew (by simpa using h)

/-- The sum is one value, in whatever world. -/
theorem add_is (n s d n' s' : Int) (w : World) (h0 : 0 ≤ n) (h1 : n < 1000000000) (hs1 : -100000 ≤ s) (hs2 : s ≤ 100000) (hd1 : -10000000000 ≤ d) (hd2 : d ≤ 10000000000) (k0 : 0 ≤ n') (k1 : n' < 1000000000) (hk : s' * 1000000000 + n' = s * 1000000000 + n + d) :
    Calls Ybaz.prog 9 #[.agg #[.int .u64 n, .int .i64 s, .pointer none], .int .i64 d] w fun e w' => e = .returned (.agg #[.int .u64 n', .int .i64 s', .pointer none]) ∧ Nw w w' :=
  (add_any n s d w h0 h1 hs1 hs2 hd1 hd2).mono fun e w' ⟨n2, s2, he, a0, a1, a2, hb⟩ => by
    obtain rfl : n2 = n' := by omega
    obtain rfl : s2 = s' := by omega
    exact ⟨he, hb⟩

set_option maxRecDepth 100000 in
set_option maxHeartbeats 1000000 in
theorem sub_zero (n s : Int) (w : World) (h0 : 0 ≤ n) (h1 : n < 1000000000) (hs1 : -9 ≤ s) (hs2 : s ≤ 8) :
    Calls Ybaz.prog 50 #[.agg #[.int .u64 n, .int .i64 s, .pointer none], .agg #[.int .u64 0, .int .i64 0, .pointer none]] w fun e w' => e = .returned (.int .i64 (s * 1000000000 + n)) ∧ Nw w w' := by
  have hm := andand n 0 h0 h1 (by omega) (by omega)
  go_enter Ybaz.func50, Ybaz.ntmps50
  go_wp2_with fail
  refine (sec_any _ _ n s _ h0 h1 (by go_simp) (by go_simp)).mono ?_
  rintro e w1 ⟨rfl, rfl⟩
  go_wp2_with fail
  refine (sec_any _ _ 0 0 _ (by omega) (by omega) (by go_simp) (by go_simp)).mono ?_
  rintro e w1 ⟨rfl, rfl⟩
  go_wp2_with fail
  refine (nsec_any _ _ n _ h0 h1 (by go_simp)).mono ?_
  rintro e w1 ⟨rfl, rfl⟩
  go_wp2_with fail
  refine (nsec_any _ _ 0 _ (by omega) (by omega) (by go_simp)).mono ?_
  rintro e w1 ⟨rfl, rfl⟩
  go_wp2_with fail
  obtain ⟨w1, hw1⟩ : ∃ w1, w1 = (w.alloc (.cells #[.int .u64 n, .int .i64 s, .pointer none] 55)).alloc (.cells #[.int .u64 0, .int .i64 0, .pointer none] 55) := ⟨_, rfl⟩
  have N1 : Hid (Nw w w1) := hw1 ▸ (((Nw.refl w).alloc _).alloc _)
  have B0 : Hid (w1.heap[w.heap.size]? = some (.cells #[.int .u64 n, .int .i64 s, .pointer none] 55 (0, 0))) := hw1 ▸ blk_alloc (blk_new rfl) _
  have B1 : Hid (w1.heap[w.heap.size + 1]? = some (.cells #[.int .u64 0, .int .i64 0, .pointer none] 55 (0, 0))) := hw1 ▸ blk_new (by simp)
  have k0 := fun (w' : World) (h : Nw w1 w') (i : Nat) => blk_cell (blk_nw B0.out h) i
  have k1 := fun (w' : World) (h : Nw w1 w') (i : Nat) => blk_cell (blk_nw B1.out h) i
  rw [← hw1]
  clear hw1
  have HA : Hid (∀ w, Calls Ybaz.prog 9 #[.agg #[.int .u64 0, .int .i64 0, .pointer none], .int .i64 (s * 1000000000 + n)] w fun e w' => e = .returned (.agg #[.int .u64 n, .int .i64 s, .pointer none]) ∧ Nw w w') := fun w => add_is 0 0 (s * 1000000000 + n) n s w (by omega) (by omega) (by omega) (by omega) (by omega) (by omega) h0 h1 (by omega)
  have HQ : Hid (∀ w, Calls Ybaz.prog 12 #[.agg #[.int .u64 n, .int .i64 s, .pointer none], .agg #[.int .u64 n, .int .i64 s, .pointer none]] w fun e w' => e = .returned (.bool true) ∧ Nw w w') := fun w => (equal_any n s n s w h0 h1 h0 h1).mono fun e w' h => by simpa using h
  refine wp_region_nw' (by kernel_rfl) ?_
  repeat (
    refine wpQuiet_step (fun K hK => ?_)
    rw [if_pos (by rfl)]
    apply Exists.intro
    refine ⟨fun w' h' => ?_, hK _ ?_⟩
    (have q0 := k0 w' h'
     have q1 := k1 w' h'
     have HN : Hid (Nw w1 w') := h'
     go_simp
     first
       | done
       | (go_at_call 9; exact (HA.out _).mono fun e w'' h => ⟨h.1, HN.out.trans h.2⟩)
       | (go_at_call 12; exact (HQ.out _).mono fun e w'' h => ⟨h.1, HN.out.trans h.2⟩)
       | with_reducible rfl)
    clear hK K
    try (simp only [Act.put]))
  refine wpQuiet_nil ?_
  intro w2 h2
  have HF : Hid (Nw w w2) := N1.out.trans h2
  clear k0 k1 h2
  go_simp
  go_wp2_with fail
  go_ret
  exact ⟨rfl, HF.out⟩

set_option maxRecDepth 100000 in
set_option maxHeartbeats 1000000 in
theorem instant_any (be : Nat) (n s : Int) (w : World) (h0 : 0 ≤ n) (h1 : n < 1000000000) (hs1 : -9 ≤ s) (hs2 : s ≤ 8) (e0 : w.cell? ⟨be, 18, none⟩ = some (.int .u64 0)) (e1 : w.cell? ⟨be, 19, none⟩ = some (.int .i64 0)) (e2 : w.cell? ⟨be, 20, none⟩ = some (.pointer none)) :
    Calls Ybaz.prog 38 #[.pointer (some ⟨be, 0, none⟩), .agg #[.int .u64 n, .int .i64 s, .pointer none]] w fun e w' => e = .returned (.int .i64 (s * 1000000000 + n)) ∧ Nw w w' := by
  have HS : Hid (∀ w, Calls Ybaz.prog 50 #[.agg #[.int .u64 n, .int .i64 s, .pointer none], .agg #[.int .u64 0, .int .i64 0, .pointer none]] w fun e w' => e = .returned (.int .i64 (s * 1000000000 + n)) ∧ Nw w w') := fun w => sub_zero n s w h0 h1 hs1 hs2
  go_enter Ybaz.func38, Ybaz.ntmps38
  go_wp2_with fail
  obtain ⟨w1, hw1⟩ : ∃ w1, w1 = w.alloc (.cells #[.int .u64 n, .int .i64 s, .pointer none] 55) := ⟨_, rfl⟩
  have N1 : Hid (Nw w w1) := hw1 ▸ ((Nw.refl w).alloc _)
  have B0 : Hid (w1.heap[w.heap.size]? = some (.cells #[.int .u64 n, .int .i64 s, .pointer none] 55 (0, 0))) := hw1 ▸ blk_new rfl
  have k0 := fun (w' : World) (h : Nw w1 w') (i : Nat) => blk_cell (blk_nw B0.out h) i
  have k1 := fun (w' : World) (h : Nw w1 w') => (N1.out.trans h).keep' e0
  have k2 := fun (w' : World) (h : Nw w1 w') => (N1.out.trans h).keep' e1
  have k3 := fun (w' : World) (h : Nw w1 w') => (N1.out.trans h).keep' e2
  rw [← hw1]
  clear hw1
  refine wp_region_nw' (by kernel_rfl) ?_
  repeat (
    refine wpQuiet_step (fun K hK => ?_)
    rw [if_pos (by rfl)]
    apply Exists.intro
    refine ⟨fun w' h' => ?_, hK _ ?_⟩
    (have q0 := k0 w' h'
     have q1 := k1 w' h'
     have q2 := k2 w' h'
     have q3 := k3 w' h'
     have HN : Hid (Nw w1 w') := h'
     go_simp
     first
       | done
       | (go_at_call 50; exact (HS.out _).mono fun e w'' h => ⟨h.1, HN.out.trans h.2⟩)
       | with_reducible rfl)
    clear hK K
    try (simp only [Act.put]))
  refine wpQuiet_nil ?_
  intro w2 h2
  have HF : Hid (Nw w w2) := N1.out.trans h2
  clear k0 k1 k2 k3 h2
  go_simp
  go_wp2_with fail
  go_ret
  exact ⟨rfl, HF.out⟩

set_option maxRecDepth 100000 in
set_option maxHeartbeats 1000000 in
theorem asideLen_nil (be : Nat) (w : World) (e0 : w.cell? ⟨be, 27, none⟩ = some (.pointer none)) :
    Calls Ybaz.prog 48 #[.pointer (some ⟨be, 24, none⟩)] w fun e w' => e = .returned (.int .i64 0) ∧ Nw w w' := by
  go_enter Ybaz.func48, Ybaz.ntmps48
  go_wp2_with fail
  go_ret
  exact ⟨rfl, Nw.refl _⟩
set_option maxRecDepth 100000 in
set_option maxHeartbeats 1000000 in
theorem isAside_nil (be : Nat) (c : Value) (w : World) (e0 : w.cell? ⟨be, 27, none⟩ = some (.pointer none)) :
    Calls Ybaz.prog 37 #[.pointer (some ⟨be, 24, none⟩), c] w fun e w' => e = .returned (.bool false) ∧ Nw w w' := by
  have HL : Hid (Calls Ybaz.prog 48 #[.pointer (some ⟨be, 24, none⟩)] w fun e w' => e = .returned (.int .i64 0) ∧ Nw w w') := asideLen_nil be w e0
  go_enter Ybaz.func37, Ybaz.ntmps37
  go_wp2_with fail
  refine Calls.mono HL.out ?_
  rintro e w1 ⟨rfl, hb⟩
  have HB : Hid (Nw w w1) := hb
  clear hb
  go_wp2_with fail
  go_ret
  exact ⟨rfl, HB.out⟩
end Go.Proofs.YbulkcbheGreatDoor
