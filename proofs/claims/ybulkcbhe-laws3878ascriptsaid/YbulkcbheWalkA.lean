import Derived.Test.YbulkcbheRows
import Derived.WalkKit
import Derived.WalkSpells
import Derived.Deep.QuietTactic
import Derived.BigQuiet
import Derived.Deep.LoopGhost
import Derived.Deep.RegionWith
import Derived.Sort.Grow
namespace Go.Proofs.Ybulkcbhe
open Go.RowKit Go.Sort
set_option linter.unusedVariables false

set_option maxHeartbeats 400000 in
theorem before_any (m o : Int) (q : Int) (w : World) :
    Calls Yba.prog 32 #[.int .i16 m, .int .i16 o, .int .i64 q] w fun e w' => e = .returned (.bool (decide (m < o))) ∧ w' = w := by
  go_enter Yba.func32, Yba.ntmps32
  go_wp2
  go_ret
  exact ⟨rfl, rfl⟩

/-- The method's name, without a slash in a string of this text. -/
def sl : String := String.ofList [Char.ofNat 47]
theorem meth28 (q : Int) (w : World) : Sem.run Yba.prog (method 173 28 (.int .i16 q) ("exam" ++ "ple.com" ++ sl ++ "portcullis" ++ sl ++ "portcullis.before")) w = .ok (32, .int .i16 q) w := by kernel_rfl

set_option maxHeartbeats 400000 in
theorem past_any (q p o : Int) (bp bb bl : Nat) (w : World) (hp : w.cell? ⟨bp, 0, none⟩ = some (.int .i16 p)) (hb : w.cell? ⟨bb, 0, none⟩ = some (.pointer (some ⟨bl, 0, none⟩)))
    (ho : w.cell? ⟨bl, 0, none⟩ = some (.int .i64 o)) :
    Calls Yba.prog 13 #[.int .i16 q, .pointer (some ⟨bp, 0, none⟩), .pointer (some ⟨bb, 0, none⟩)] w fun e w' => e = .returned (.bool (decide (q < p))) ∧ ∃ n, w' = w.drewN n := by
  have hm := fun w => meth28 q w
  simp only [sl, String.reduceAppend, String.reduceOfList] at hm
  go_enter Yba.func13, Yba.ntmps13
  go_wp2
  go_quiet ((go_at_call 32; exact Calls.quiet_of_same (before_any _ _ _ _)))
  go_wp2
  go_ret
  exact ⟨rfl, _, rfl⟩
end Go.Proofs.Ybulkcbhe
