import Derived.Test.YbulkcbheGreatDoorGrp
import Derived.Test.YbulkcbheGreatDoorLst
namespace Go.Proofs.YbulkcbheGreatDoor
open Go.RowKit
set_option linter.unusedVariables false
set_option linter.unusedSimpArgs false
/-- The engine's cells. -/
def engc (obs n s : Int) (bm1 : Nat) (l0 l1 : Addr) (bm2 : Nat) (l2 : Addr) (sl bl : Value) : Array Value :=
  #[.int .i64 0, .int .i64 0, .int .i64 0, .int .i64 0, .int .i64 0, .int .i64 0, .int .i64 1099511627776, .int .i64 obs, .int .i64 1000000000, .int .i64 0, .int .i64 0, .int .i64 0, .int .i64 0, .int .i64 0, .int .i64 0, .int .i64 64, .string ⟨#[]⟩, .string ⟨#[]⟩,
    .int .u64 0, .int .i64 0, .pointer none, .int .u64 n, .int .i64 s, .pointer none,
    .map (some bm1), .pointer (some l0), .pointer (some l1), .pointer none, .map (some bm2), .pointer (some l2), .pointer none, .pointer none, sl, bl]
set_option maxRecDepth 100000 in
set_option maxHeartbeats 800000 in
theorem engine_any (x obs : Int) (w : World) (hx0 : -2147483648 ≤ x) (hx1 : x ≤ 2147483647) :
    Calls Ybaz.prog 6 #[.int .i32 x, .int .i64 obs] w fun e w' => ∃ be n s bm1 l0 l1 bm2 l2, e = .returned (.pointer (some ⟨be, 0, none⟩)) ∧ w.heap.size ≤ be ∧ w.heap.size ≤ bm1 ∧ bm1 < bm2 ∧ bm2 < be ∧ 0 ≤ n ∧ n < 1000000000 ∧ s * 1000000000 + n = x ∧ w'.heap[be]? = some (.cells (engc obs n s bm1 l0 l1 bm2 l2 (.pointer none) (.pointer none)) 63 (0, 0)) ∧ w'.heap[bm1]? = some (.map #[] 0) ∧ w'.heap[bm2]? = some (.map #[] 0) ∧ Nw w w' := by
  go_enter Ybaz.func6, Ybaz.ntmps6
  go_wp2_with fail
  refine (add_any 0 0 x _ (by omega) (by omega) (by omega) (by omega) (by omega) (by omega)).mono ?_
  rintro e w1 ⟨n, s, rfl, hn0, hn1, hns, hb⟩
  have HB : Hid (Nw w w1) := hb
  have HN : Hid (0 ≤ n ∧ n < 1000000000 ∧ s * 1000000000 + n = x) := ⟨hn0, hn1, by omega⟩
  clear hb hn0 hn1 hns
  go_wp2_with fail
  refine (newClient _ _ (by simp) (by simp)).mono ?_
  rintro e w2 ⟨bm1, l0, l1, rfl, hm1, hb1, hw2⟩
  have HM1 : Hid (w.heap.size ≤ bm1) := by have := HB.out.size; simp at hm1; exact Nat.le_trans this (by omega)
  have HK1 : Hid (w2.heap[bm1]? = some (.map #[] 0)) := hb1
  have HB2 : Hid (Nw w w2) := (HB.out.alloc _).trans hw2
  clear hm1 hb1 hw2
  go_wp2_with fail
  refine (newBan _ _ (by simp)).mono ?_
  rintro e w3 ⟨bm2, l2, rfl, hm2, hb2, hw3⟩
  have HM2 : Hid (bm1 < bm2) := by have := lt_of_block HK1.out; simp at hm2; exact Nat.lt_of_lt_of_le this (by omega)
  have HK2 : Hid (w3.heap[bm2]? = some (.map #[] 0)) := hb2
  have HK1' : Hid (w3.heap[bm1]? = some (.map #[] 0)) := blk_nw (blk_alloc HK1.out _) hw3
  have HB3 : Hid (Nw w w3) := (HB2.out.alloc _).trans hw3
  clear hm2 hb2 hw3
  go_wp2_with fail
  go_ret
  refine ⟨_, n, s, bm1, l0, l1, bm2, l2, rfl, HB3.out.size, HM1.out, HM2.out, lt_of_block HK2.out, HN.out.1, HN.out.2.1, HN.out.2.2, ?_, blk_alloc HK1'.out _, blk_alloc HK2.out _, HB3.out.alloc _⟩
  exact blk_new rfl
end Go.Proofs.YbulkcbheGreatDoor
