import Derived.Test.YbulkcbheGreatDoorMap
import Derived.Test.YbulkcbheGreatDoorKey
namespace Go.Proofs.YbulkcbheGreatDoor
open Go.RowKit
set_option linter.unusedVariables false
set_option linter.unusedSimpArgs false

set_option maxRecDepth 100000 in
set_option maxHeartbeats 800000 in
theorem getBan_any (be o bm : Nat) (x y z u : Int) (v : Value) (w : World) (hc : w.cell? ⟨be, o, none⟩ = some (.map (some bm))) (hl : ∀ w', Nw w w' → (Instr.lookup 56 (.map (some bm)) (.agg (kc x y z u)) false).run Ybaz.prog w' = .ok v w') :
    Calls Ybaz.prog 24 #[.pointer (some ⟨be, o, none⟩), .agg (kc x y z u)] w fun e w' => e = .returned v ∧ Nw w w' := by
  have hbe : be < w.heap.size := World.block_lt_of_cell? _ _ hc
  have hlk := fun (n : Nat) => hl _ (((Nw.refl w).alloc (.cells (kc x y z u) 30)).drewN n)
  unfold kc at hlk ⊢
  clear hl
  go_enter Ybaz.func24, Ybaz.ntmps24
  go_wp2
  go_quiet (fail)
  go_wp2
  go_ret
  exact ⟨rfl, ((Nw.refl _).alloc _).drewN _⟩
set_option maxRecDepth 100000 in
set_option maxHeartbeats 800000 in
theorem getClient_any (be o bm : Nat) (x y z u : Int) (v : Value) (w : World) (hc : w.cell? ⟨be, o, none⟩ = some (.map (some bm))) (hl : ∀ w', Nw w w' → (Instr.lookup 44 (.map (some bm)) (.agg (kc x y z u)) false).run Ybaz.prog w' = .ok v w') :
    Calls Ybaz.prog 20 #[.pointer (some ⟨be, o, none⟩), .agg (kc x y z u)] w fun e w' => e = .returned v ∧ Nw w w' := by
  have hbe : be < w.heap.size := World.block_lt_of_cell? _ _ hc
  have hlk := fun (n : Nat) => hl _ (((Nw.refl w).alloc (.cells (kc x y z u) 30)).drewN n)
  unfold kc at hlk ⊢
  clear hl
  go_enter Ybaz.func20, Ybaz.ntmps20
  go_wp2
  go_quiet (fail)
  go_wp2
  go_ret
  exact ⟨rfl, ((Nw.refl _).alloc _).drewN _⟩

/-! A list that is nil holds no address. -/
set_option maxRecDepth 100000 in
set_option maxHeartbeats 800000 in
theorem contains_nil (lo : Int) (p4 : Addr) (w : World) :
    Calls Ybaz.prog 31 #[.pointer none, .agg #[.int .u64 0, .int .u64 lo, .pointer (some p4)]] w fun e w' => e = .returned (.bool false) ∧ Nw w w' := by
  go_enter Ybaz.func31, Ybaz.ntmps31
  go_wp2
  go_ret
  exact ⟨rfl, (Nw.refl _).alloc _⟩

set_option maxRecDepth 100000 in
set_option maxHeartbeats 800000 in
theorem lasts_nil (n s : Int) (w : World) :
    Calls Ybaz.prog 39 #[.pointer none, .agg #[.int .u64 n, .int .i64 s, .pointer none]] w fun e w' => e = .returned (.bool false) ∧ Nw w w' := by
  go_enter Ybaz.func39, Ybaz.ntmps39
  go_wp2
  go_quiet (fail)
  go_wp2
  go_ret
  exact ⟨rfl, ((Nw.refl _).alloc _).drewN _⟩
set_option maxRecDepth 100000 in
set_option maxHeartbeats 800000 in
theorem lasts_any (bb : Nat) (n s m t : Int) (w : World) (h0 : 0 ≤ n) (h1 : n < 1000000000) (k0 : 0 ≤ m) (k1 : m < 1000000000)
    (c0 : w.cell? ⟨bb, 16, none⟩ = some (.int .u64 m)) (c1 : w.cell? ⟨bb, 17, none⟩ = some (.int .i64 t)) (c2 : w.cell? ⟨bb, 18, none⟩ = some (.pointer none)) :
    Calls Ybaz.prog 39 #[.pointer (some ⟨bb, 0, none⟩), .agg #[.int .u64 n, .int .i64 s, .pointer none]] w fun e w' => e = .returned (.bool (decide (s * 1000000000 + n < t * 1000000000 + m))) ∧ Nw w w' := by
  have hbb : bb < w.heap.size := World.block_lt_of_cell? _ _ c0
  have hbf := fun w => before_any n s m t w h0 h1 k0 k1
  generalize decide (s * 1000000000 + n < t * 1000000000 + m) = r at hbf ⊢
  go_enter Ybaz.func39, Ybaz.ntmps39
  go_wp2
  go_region_with (go_at_call 51; refine (hbf _).mono ?_; rintro e w1 ⟨rfl, hb⟩; have HB : Hid (Nw w w1) := ((Nw.refl _).alloc _).drew.trans hb; clear hb)
  all_goals (go_wp2; go_ret)
  all_goals exact ⟨rfl, HB.out⟩
end Go.Proofs.YbulkcbheGreatDoor
