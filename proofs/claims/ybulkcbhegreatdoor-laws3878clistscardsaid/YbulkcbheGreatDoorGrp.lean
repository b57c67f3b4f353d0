import Derived.Test.YbulkcbheGreatDoorMap
import Derived.Test.YbulkcbheGreatDoorNetC
import Derived.ProofKit
import Derived.Handy
import Derived.Carry
namespace Go.Proofs.YbulkcbheGreatDoor
open Go.RowKit
set_option linter.unusedVariables false
set_option linter.unusedSimpArgs false
set_option maxRecDepth 100000 in
set_option maxHeartbeats 800000 in
theorem ckey_any (a b c d : Int) (w : World) :
    Calls Ybaz.prog 7 #[.int .u8 a, .int .u8 b, .int .u8 c, .int .u8 d] w fun e w' => e = .returned (.agg (kc a b c d)) ∧ Nw w w' := by
  go_enter Ybaz.func7, Ybaz.ntmps7
  go_wp2
  refine bodyPost_ret (v := .agg (kc a b c d)) (by simp [results, Ybaz.results7, go_sem, kc]) rfl ⟨rfl, ((Nw.refl _).alloc _).alloc _⟩

set_option maxRecDepth 100000 in
set_option maxHeartbeats 800000 in
theorem newClient (bs : Nat) (w : World) (c0 : w.cell? ⟨bs, 0, none⟩ = some (.int .i64 0)) (c1 : w.cell? ⟨bs, 1, none⟩ = some (.int .i64 1)) :
    Calls Ybaz.prog 16 #[.slice (some ⟨bs, 0, none⟩) 2 2] w fun e w' => ∃ bm l0 l1, e = .returned (.agg #[.map (some bm), .pointer (some l0), .pointer (some l1), .pointer none]) ∧ w.heap.size ≤ bm ∧ w'.heap[bm]? = some (.map #[] 0) ∧ Nw w w' := by
  have hmk := fun (w : World) => run_makeMap (P := Ybaz.prog) 44 w
  have hbs : bs < w.heap.size := World.block_lt_of_cell? _ _ c0
  have hbs1 : bs < w.heap.size + 1 := by omega
  have hbs2 : bs < w.heap.size + 1 + 1 := by omega
  have hbs3 : bs < w.heap.size + 1 + 1 + 1 := by omega
  have hn1 : bs ≠ w.heap.size := by omega
  have hn2 : bs ≠ w.heap.size + 1 := by omega
  have hn3 : bs ≠ w.heap.size + 1 + 1 := by omega
  have hn4 : bs ≠ w.heap.size + 1 + 1 + 1 := by omega
  go_enter Ybaz.func16, Ybaz.ntmps16
  go_wp2
  go_rounds 3
  refine bodyPost_ret (v := .agg #[.map (some (w.heap.size + 1)), .pointer (some ⟨w.heap.size + 1 + 1 + 1, 0, none⟩), .pointer (some ⟨w.heap.size + 1 + 1 + 1 + 1, 0, none⟩), .pointer none]) (by simp [results, Ybaz.results16, go_sem]) rfl ⟨_, _, _, rfl, by omega, ?_, ?_⟩
  · exact blk_alloc (blk_alloc (blk_alloc (blk_new (by simp)) _) _) _
  · exact ((((((Nw.refl _).alloc _).alloc _).alloc _).alloc _).alloc _)
set_option maxRecDepth 100000 in
set_option maxHeartbeats 800000 in
theorem newBan (bs : Nat) (w : World) (c0 : w.cell? ⟨bs, 0, none⟩ = some (.int .i64 0)) :
    Calls Ybaz.prog 17 #[.slice (some ⟨bs, 0, none⟩) 1 1] w fun e w' => ∃ bm l0, e = .returned (.agg #[.map (some bm), .pointer (some l0), .pointer none, .pointer none]) ∧ w.heap.size ≤ bm ∧ w'.heap[bm]? = some (.map #[] 0) ∧ Nw w w' := by
  have hmk := fun (w : World) => run_makeMap (P := Ybaz.prog) 56 w
  have hbs : bs < w.heap.size := World.block_lt_of_cell? _ _ c0
  have hbs1 : bs < w.heap.size + 1 := by omega
  have hbs2 : bs < w.heap.size + 1 + 1 := by omega
  have hbs3 : bs < w.heap.size + 1 + 1 + 1 := by omega
  have hn1 : bs ≠ w.heap.size := by omega
  have hn2 : bs ≠ w.heap.size + 1 := by omega
  have hn3 : bs ≠ w.heap.size + 1 + 1 := by omega
  have hn4 : bs ≠ w.heap.size + 1 + 1 + 1 := by omega
  go_enter Ybaz.func17, Ybaz.ntmps17
  go_wp2
  go_rounds 2
  refine bodyPost_ret (v := .agg #[.map (some (w.heap.size + 1)), .pointer (some ⟨w.heap.size + 1 + 1 + 1, 0, none⟩), .pointer none, .pointer none]) (by simp [results, Ybaz.results17, go_sem]) rfl ⟨_, _, rfl, by omega, ?_, ?_⟩
  · exact blk_alloc (blk_alloc (blk_new (by simp)) _) _
  · exact (((((Nw.refl _).alloc _).alloc _).alloc _).alloc _)
end Go.Proofs.YbulkcbheGreatDoor
