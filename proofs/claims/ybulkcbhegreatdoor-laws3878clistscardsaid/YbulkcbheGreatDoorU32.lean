import Derived.Test.YbulkcbheGreatDoorTime
import Derived.Test.YbulkcbheGreatDoorNetD
import Derived.Laws.BitsAllLaws
namespace Go.Proofs.YbulkcbheGreatDoor
open Go.RowKit
set_option linter.unusedVariables false
set_option linter.unusedSimpArgs false
theorem or_up32 (i : Nat) (x y : Int) (hx0 : 0 ≤ x) (hx : x < 4294967296) (hy0 : 0 ≤ y) (hy : y < 4294967296) (h1 : x.toNat % 2 ^ i = 0) (h2 : y.toNat < 2 ^ i) : bits .or .u32 x y = x + y := by
  rw [u32_or x y hx0 hx hy0 hy, nat_join i _ _ h1 h2]; omega
theorem or_lo32 (i : Nat) (x y : Int) (hx0 : 0 ≤ x) (hx : x < 4294967296) (hy0 : 0 ≤ y) (hy : y < 4294967296) (h1 : x.toNat % 2 ^ i = 0) (h2 : y.toNat < 2 ^ i) : bits .or .u32 y x = x + y := by
  rw [u32_or y x hy0 hy hx0 hx, Nat.or_comm, nat_join i _ _ h1 h2]; omega
set_option maxRecDepth 100000 in
set_option maxHeartbeats 800000 in
theorem uint32_any (b cp : Nat) (x y z u : Int) (w : World) (hx0 : 0 ≤ x) (hx : x ≤ 255) (hy0 : 0 ≤ y) (hy : y ≤ 255) (hz0 : 0 ≤ z) (hz : z ≤ 255) (hu0 : 0 ≤ u) (hu : u ≤ 255)
    (c0 : w.cell? ⟨b, 0, none⟩ = some (.int .u8 x)) (c1 : w.cell? ⟨b, 1, none⟩ = some (.int .u8 y)) (c2 : w.cell? ⟨b, 2, none⟩ = some (.int .u8 z)) (c3 : w.cell? ⟨b, 3, none⟩ = some (.int .u8 u)) :
    Calls Ybaz.prog 58 #[.agg #[], .slice (some ⟨b, 0, none⟩) 4 cp] w fun e w' => e = .returned (.int .u32 (x * 16777216 + y * 65536 + z * 256 + u)) ∧ Nw w w' := by
  have hb : b < w.heap.size := World.block_lt_of_cell? _ _ c0
  obtain ⟨L1, hL1⟩ : ∃ L1, L1 = z * 256 + u := ⟨_, rfl⟩
  obtain ⟨L2, hL2⟩ : ∃ L2, L2 = y * 65536 + L1 := ⟨_, rfl⟩
  obtain ⟨L3, hL3⟩ : ∃ L3, L3 = x * 16777216 + L2 := ⟨_, rfl⟩
  have o1 : bits .or .u32 u (z * 256) = L1 := by rw [hL1]; exact or_lo32 8 _ _ (by omega) (by omega) (by omega) (by omega) (by omega) (by omega)
  have o2 : bits .or .u32 L1 (y * 65536) = L2 := by rw [hL2]; exact or_lo32 16 _ _ (by omega) (by omega) (by omega) (by omega) (by omega) (by omega)
  have o3 : bits .or .u32 L2 (x * 16777216) = L3 := by rw [hL3]; exact or_lo32 24 _ _ (by omega) (by omega) (by omega) (by omega) (by omega) (by omega)
  have e : x * 16777216 + y * 65536 + z * 256 + u = L3 := by omega
  rw [e]
  clear hL1 hL2 hL3 e
  go_enter Ybaz.func58, Ybaz.ntmps58
  go_wp2
  go_quiet (fail)
  go_wp2
  go_ret
  exact ⟨rfl, ((Nw.refl _).alloc _).drewN _⟩

set_option maxRecDepth 100000 in
set_option maxHeartbeats 800000 in
theorem bePut32 (b cp : Nat) (v x y z u : Int) (w : World) (hx0 : 0 ≤ x) (hx : x ≤ 255) (hy0 : 0 ≤ y) (hy : y ≤ 255) (hz0 : 0 ≤ z) (hz : z ≤ 255) (hu0 : 0 ≤ u) (hu : u ≤ 255) (hv : v = x * 16777216 + y * 65536 + z * 256 + u)
    (hb : w.heap[b]? = some (.cells #[.int .u8 0, .int .u8 0, .int .u8 0, .int .u8 0] 76 (0, 0))) :
    Calls Ybaz.prog 68 #[.slice (some ⟨b, 0, none⟩) 4 cp, .int .u32 v] w fun e w' => e = .returned (.tuple #[]) ∧ w'.heap[b]? = some (.cells #[.int .u8 x, .int .u8 y, .int .u8 z, .int .u8 u] 76 (0, 0)) ∧ w.grownBy w' (some b) := by
  have K := blk_cell hb
  have F := blk_free hb
  have HB : Hid _ := hb
  have HL : Hid _ := hv
  have hl0 : 0 ≤ v := by omega
  have hl1 : v < 4294967296 := by omega
  clear hb hv
  go_enter Ybaz.func68, Ybaz.ntmps68
  go_wp2
  go_end0
  have hlo := HL.out
  have b4 : v / 16777216 = x := by omega
  have b5 : v / 65536 % 256 = y := by omega
  have b6 : v / 256 % 256 = z := by omega
  have b7 : v % 256 = u := by omega
  rw [b4, b5, b6, b7]
  refine ⟨rfl, blk_set (blk_set (blk_set (blk_set HB.out 0 _) 1 _) 2 _) 3 _, ?_⟩
  exact grownBy_trans (grownBy_trans (grownBy_trans (grownBy_setCell _ _ _) (grownBy_setCell _ _ _)) (grownBy_setCell _ _ _)) (grownBy_setCell _ _ _)
end Go.Proofs.YbulkcbheGreatDoor
