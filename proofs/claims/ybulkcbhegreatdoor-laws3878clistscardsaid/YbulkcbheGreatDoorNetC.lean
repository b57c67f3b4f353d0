import Derived.Test.YbulkcbheGreatDoorNetB
namespace Go.Proofs.YbulkcbheGreatDoor
open Go.RowKit
set_option linter.unusedVariables false
set_option linter.unusedSimpArgs false

/-! Blocks of the call's own, written out. -/
theorem blk_cell {w : World} {b : Nat} {c : Array Value} {e : TypeId} (h : w.heap[b]? = some (.cells c e (0, 0))) (i : Nat) : w.cell? ⟨b, i, none⟩ = c[i]? := by simp [World.cell?, h]
theorem blk_free {w : World} {b : Nat} {c : Array Value} {e : TypeId} (h : w.heap[b]? = some (.cells c e (0, 0))) (i : Nat) : w.frozen? ⟨b, i, none⟩ = false := by simp [World.frozen?, h]
theorem blk_set {w : World} {b : Nat} {c : Array Value} {e : TypeId} (h : w.heap[b]? = some (.cells c e (0, 0))) (i : Nat) (v : Value) : (w.setCell ⟨b, i, none⟩ v).heap[b]? = some (.cells (c.setIfInBounds i v) e (0, 0)) := by
  have hlt := lt_of_block h
  have h' : w.heap[b] = .cells c e (0, 0) := by simpa [Array.getElem?_eq_getElem hlt] using h
  show (w.heap.modify b _)[b]? = _
  rw [Array.getElem?_eq_getElem (by simpa using hlt), Array.getElem_modify_self, h']
  rfl
theorem blk_set_other {w : World} {b : Nat} {o : Option Obj} (h : w.heap[b]? = o) (a : Addr) (v : Value) (hne : b ≠ a.block) : (w.setCell a v).heap[b]? = o := by
  rw [Below.heap_setCell _ _ _ _ hne]; exact h
theorem blk_alloc {w : World} {b : Nat} {o : Obj} (h : w.heap[b]? = some o) (x : Obj) : (w.alloc x).heap[b]? = some o := by
  rw [Below.heap_alloc _ _ _ (lt_of_block h)]; exact h
theorem blk_nw {w w' : World} {b : Nat} {o : Obj} (h : w.heap[b]? = some o) (g : Nw w w') : w'.heap[b]? = some o := by
  rw [g.block b (lt_of_block h)]; exact h
theorem blk_new {w : World} {b : Nat} {o : Obj} (hb : b = w.heap.size) : (w.alloc o).heap[b]? = some o := by subst hb; exact heap_alloc_new w o
end Go.Proofs.YbulkcbheGreatDoor
