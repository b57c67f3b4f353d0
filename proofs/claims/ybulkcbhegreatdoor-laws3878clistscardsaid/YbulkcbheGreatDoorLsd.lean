import Derived.Test.YbulkcbheGreatDoorLst
namespace Go.Proofs.YbulkcbheGreatDoor
open Go.RowKit
set_option linter.unusedVariables false
set_option linter.unusedSimpArgs false

set_option maxRecDepth 100000 in
set_option maxHeartbeats 1600000 in
theorem state_listed (be : Nat) (n s lo : Int) (p4 : Addr) (rs rb : Bool) (w : World) (hr : (rs || rb) = true)
    (HL : Hid (∀ w', Nw w w' → Calls Ybaz.prog 18 #[.pointer (some ⟨be, 0, none⟩), .agg #[.int .u64 0, .int .u64 lo, .pointer (some p4)]] w' fun e w'' => e = .returned (.tuple #[.bool rs, .bool rb]) ∧ Nw w' w'')) :
    Calls Ybaz.prog 8 #[.pointer (some ⟨be, 0, none⟩), .agg #[.int .u64 n, .int .i64 s, .pointer none], .agg #[.int .u64 0, .int .u64 lo, .pointer (some p4)]] w fun e w' => e = .returned (.agg #[.int .i64 0, .bool (!rs), .int .u64 0, .int .i64 0, .pointer none, .bool rs, .bool rb]) ∧ Nw w w' := by
  have hle : w.heap.size ≤ w.heap.size + 1 + 1 := by omega
  go_enter Ybaz.func8, Ybaz.ntmps8
  go_wp2_with fail
  refine (HL.out _ ((((Nw.refl _).alloc _).alloc _).alloc _)).mono ?_
  rintro e w1 ⟨rfl, hb⟩
  have B2 : Hid (w1.heap[w.heap.size + 1 + 1]? = some (.cells #[.int .i64 0, .bool false, .int .u64 0, .int .i64 0, .pointer none, .bool false, .bool false] 65 (0, 0))) := blk_nw (blk_new (by simp)) hb
  have N1 : Hid (Nw w w1) := ((((Nw.refl _).alloc _).alloc _).alloc _).trans hb
  clear hb HL
  have k0 := blk_cell B2.out
  have f0 := blk_free B2.out
  cases rs
  · cases rb
    · cases hr
    · clear hr
      go_wp2_with fail
      refine bodyPost_ret (v := .agg #[.int .i64 0, .bool true, .int .u64 0, .int .i64 0, .pointer none, .bool false, .bool true]) (by simp [results, Ybaz.results8, go_sem, k0]) rfl ⟨rfl, ((((((N1.out.set hle _).set hle _).set hle _).set hle _).set hle _).set hle _).set hle _⟩
  · clear hr
    go_wp2_with fail
    refine bodyPost_ret (v := .agg #[.int .i64 0, .bool false, .int .u64 0, .int .i64 0, .pointer none, .bool true, .bool rb]) (by simp [results, Ybaz.results8, go_sem, k0]) rfl ⟨rfl, ((((((N1.out.set hle _).set hle _).set hle _).set hle _).set hle _).set hle _).set hle _⟩
end Go.Proofs.YbulkcbheGreatDoor
