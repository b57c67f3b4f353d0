import Derived.Test.YbulkcbheWalkA
namespace Go.Proofs.Ybulkcbhe
open Go.RowKit Go.Sort
set_option linter.unusedVariables false

set_option maxHeartbeats 800000 in
theorem lastIn_any (p o x : Int) (bp bb bl bf bl2 br ro R cap xb xo len cp r : Nat) (w : World)
    (hp : w.cell? ⟨bp, 0, none⟩ = some (.int .i16 p)) (hb : w.cell? ⟨bb, 0, none⟩ = some (.pointer (some ⟨bl, 0, none⟩))) (ho : w.cell? ⟨bl, 0, none⟩ = some (.int .i64 o))
    (hf : w.cell? ⟨bf, 0, none⟩ = some (.func (.func 13) #[] #[.pointer (some ⟨bp, 0, none⟩), .pointer (some ⟨bb, 0, none⟩)])) (hl : w.cell? ⟨bl2, 0, none⟩ = some (.pointer (some ⟨bl, 0, none⟩)))
    (hr : w.cell? ⟨bl, 1, none⟩ = some (.slice (some ⟨br, ro, none⟩) R cap)) (hlt : r < R) (hx : w.cell? ⟨br, ro + r, none⟩ = some (.slice (some ⟨xb, xo, none⟩) (len + 1) cp))
    (hc : w.cell? ⟨xb, xo + len, none⟩ = some (.int .i16 x)) (hR : R ≤ 1000000) (hlen : len ≤ 1000000) :
    Calls Yba.prog 15 #[.int .i64 r, .pointer (some ⟨bf, 0, none⟩), .pointer (some ⟨bl2, 0, none⟩)] w fun e w' => e = .returned (.bool !(decide (x < p))) ∧ ∃ n, w' = w.drewN n := by
  have hlt' : (r : Int) < (R : Int) := by omega
  go_enter Yba.func15, Yba.ntmps15
  go_wp2
  go_quiet ((go_at_call 13; exact Calls.quiet_of (past_any _ _ _ _ _ _ _ hp hb ho)))
  go_wp2
  go_ret
  exact ⟨rfl, _, rfl⟩

set_option maxHeartbeats 800000 in
theorem atIn_any (p o x : Int) (bp bb bl bf bc xb xo len cp i : Nat) (w : World)
    (hp : w.cell? ⟨bp, 0, none⟩ = some (.int .i16 p)) (hb : w.cell? ⟨bb, 0, none⟩ = some (.pointer (some ⟨bl, 0, none⟩))) (ho : w.cell? ⟨bl, 0, none⟩ = some (.int .i64 o))
    (hf : w.cell? ⟨bf, 0, none⟩ = some (.func (.func 13) #[] #[.pointer (some ⟨bp, 0, none⟩), .pointer (some ⟨bb, 0, none⟩)]))
    (hx : w.cell? ⟨bc, 0, none⟩ = some (.slice (some ⟨xb, xo, none⟩) len cp)) (hlt : i < len)
    (hc : w.cell? ⟨xb, xo + i, none⟩ = some (.int .i16 x)) (hlen : len ≤ 1000000) :
    Calls Yba.prog 16 #[.int .i64 i, .pointer (some ⟨bf, 0, none⟩), .pointer (some ⟨bc, 0, none⟩)] w fun e w' => e = .returned (.bool !(decide (x < p))) ∧ ∃ n, w' = w.drewN n := by
  have hlt' : (i : Int) < (len : Int) := by omega
  go_enter Yba.func16, Yba.ntmps16
  go_wp2
  go_quiet ((go_at_call 13; exact Calls.quiet_of (past_any _ _ _ _ _ _ _ hp hb ho)))
  go_wp2
  go_ret
  exact ⟨rfl, _, rfl⟩
end Go.Proofs.Ybulkcbhe
