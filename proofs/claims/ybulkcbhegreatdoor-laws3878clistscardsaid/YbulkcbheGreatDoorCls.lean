import Derived.Test.YbulkcbheGreatDoorNum
import Derived.Test.YbulkcbheGreatDoorLst
namespace Go.Proofs.YbulkcbheGreatDoor
open Go.RowKit
set_option linter.unusedVariables false
set_option linter.unusedSimpArgs false
def ClistPost (w : World) (f l : Int) (e : Ending) (w' : World) : Prop := ∃ bl br bi, e = .returned (.pointer (some ⟨bl, 0, none⟩)) ∧ w.heap.size ≤ bl ∧
      w'.heap[bl]? = some (.cells #[.slice (some ⟨br, 0, none⟩) 1 1, .slice (some ⟨bi, 0, none⟩) 2 2, .int .u64 64, .slice none 0 0, .slice none 0 0, .int .u64 0] 114 (0, 0)) ∧
      w'.heap[br]? = some (.cells #[.int .u64 f, .int .u64 0, .int .u64 l, .int .u64 0] 108 (0, 0)) ∧ w'.heap[bi]? = some (.cells #[.int .u32 0, .int .u32 1] 22 (0, 0)) ∧ Nw w w'
set_option maxRecDepth 100000 in
set_option maxHeartbeats 800000 in
theorem clist_any (lo hi : Int) (w : World) (h0 : 0 ≤ lo) (h1 : lo < 4294967296) (h2 : 0 ≤ hi) (h3 : hi < 4294967296) :
    Calls Ybaz.prog 13 #[.int .u32 lo, .int .u32 hi] w fun e w' => ClistPost w ((if hi < lo then hi else lo) * 4294967296) ((if hi < lo then lo else hi) * 4294967296) e w' := by
  by_cases hc : hi < lo
  · rw [if_pos hc, if_pos hc]
    go_enter Ybaz.func13, Ybaz.ntmps13
    go_wp2_with fail
    go_ret
    exact ⟨w.heap.size + 1 + 1, w.heap.size, w.heap.size + 1, rfl, by omega, blk_new (by simp), blk_alloc (blk_alloc (blk_new rfl) _) _, blk_alloc (blk_new (by simp)) _, (((Nw.refl _).alloc _).alloc _).alloc _⟩
  · rw [if_neg hc, if_neg hc]
    have hc' : lo ≤ hi := by omega
    go_enter Ybaz.func13, Ybaz.ntmps13
    go_wp2_with fail
    go_ret
    exact ⟨w.heap.size + 1 + 1, w.heap.size, w.heap.size + 1, rfl, by omega, blk_new (by simp), blk_alloc (blk_alloc (blk_new rfl) _) _, blk_alloc (blk_new (by simp)) _, (((Nw.refl _).alloc _).alloc _).alloc _⟩

set_option maxRecDepth 100000 in
set_option maxHeartbeats 800000 in
theorem setLists_any (be : Nat) (sl bl : Option Addr) (w : World) (c0 : (w.cell? ⟨be, 32, none⟩).isSome = true) (c1 : (w.cell? ⟨be, 33, none⟩).isSome = true) (f0 : w.frozen? ⟨be, 32, none⟩ = false) (f1 : w.frozen? ⟨be, 33, none⟩ = false) :
    Calls Ybaz.prog 14 #[.pointer (some ⟨be, 0, none⟩), .pointer sl, .pointer bl] w fun e w' => e = .returned (.tuple #[]) ∧ w' = (w.setCell ⟨be, 32, none⟩ (.pointer sl)).setCell ⟨be, 33, none⟩ (.pointer bl) := by
  obtain ⟨x0, hx0⟩ := Option.isSome_iff_exists.1 c0
  obtain ⟨x1, hx1⟩ := Option.isSome_iff_exists.1 c1
  clear c0 c1
  go_enter Ybaz.func14, Ybaz.ntmps14
  go_wp2_with fail
  go_end0
  exact ⟨rfl, rfl⟩

set_option maxRecDepth 100000 in
set_option maxHeartbeats 800000 in
theorem cin_any (h lo hi : Int) (w : World) :
    Calls Ybaz.prog 15 #[.int .u32 h, .int .u32 lo, .int .u32 hi] w fun e w' => e = .returned (.bool (decide ((if hi < lo then hi else lo) ≤ h ∧ h ≤ (if hi < lo then lo else hi)))) ∧ Nw w w' := by
  by_cases hc : hi < lo
  · rw [if_pos hc, if_pos hc]
    by_cases h1 : hi ≤ h
    · by_cases h2 : h ≤ lo
      · rw [decide_eq_true ⟨h1, h2⟩]
        go_enter Ybaz.func15, Ybaz.ntmps15
        go_wp2_with fail
        go_ret
        exact ⟨by simp [h2], Nw.refl _⟩
      · rw [decide_eq_false (fun k => h2 k.2)]
        go_enter Ybaz.func15, Ybaz.ntmps15
        go_wp2_with fail
        go_ret
        exact ⟨by simp [h2], Nw.refl _⟩
    · rw [decide_eq_false (fun k => h1 k.1)]
      go_enter Ybaz.func15, Ybaz.ntmps15
      go_wp2_with fail
      go_ret
      exact ⟨by simp [h1], Nw.refl _⟩
  · rw [if_neg hc, if_neg hc]
    by_cases h1 : lo ≤ h
    · by_cases h2 : h ≤ hi
      · rw [decide_eq_true ⟨h1, h2⟩]
        go_enter Ybaz.func15, Ybaz.ntmps15
        go_wp2_with fail
        go_ret
        exact ⟨by simp [h2], Nw.refl _⟩
      · rw [decide_eq_false (fun k => h2 k.2)]
        go_enter Ybaz.func15, Ybaz.ntmps15
        go_wp2_with fail
        go_ret
        exact ⟨by simp [h2], Nw.refl _⟩
    · rw [decide_eq_false (fun k => h1 k.1)]
      go_enter Ybaz.func15, Ybaz.ntmps15
      go_wp2_with fail
      go_ret
      exact ⟨by simp [h1], Nw.refl _⟩
end Go.Proofs.YbulkcbheGreatDoor
