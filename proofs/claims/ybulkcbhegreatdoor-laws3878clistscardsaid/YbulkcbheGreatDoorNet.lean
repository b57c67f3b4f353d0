import Derived.Test.YbulkcbheGreatDoorTime
import Derived.WalkLawsBesides
namespace Go.Proofs.YbulkcbheGreatDoor
open Go.RowKit
set_option linter.unusedVariables false
set_option linter.unusedSimpArgs false
theorem eqNone (p : Addr) (w : World) : Sem.run Ybaz.prog (Op.equalIn 9999 70 (.pointer (some p)) (.pointer none)) w = .ok false w := by kernel_rfl
theorem size213 : (Ybaz.prog.info? 213).map (fun i => (i.zero, i.size, i.bytes)) = some (some (.agg #[.bool false, .string ByteArray.empty]), 2, 24) := by kernel_rfl
theorem eqSame1 (d : Nat) (p : Addr) (w : World) : Sem.run Ybaz.prog (Op.equalIn (d + 1) 70 (.pointer (some p)) (.pointer (some p))) w = .ok true w := by
  obtain ⟨i0, hi, hz0, hz1, hz2⟩ := info_parts size213
  have h := @Ybaz.underlying70
  simp [Op.equalIn, run_underlying h, sizeOf, typeInfo, sameAddr, hi, hz1]
theorem eqSame (p : Addr) (w : World) : Sem.run Ybaz.prog (Op.equalIn 9999 70 (.pointer (some p)) (.pointer (some p))) w = .ok true w := eqSame1 9998 p w

/-- What the package-level variables of net/netip hold, and that they lie among the old blocks. -/
structure Zs (w : World) (p4 : Addr) : Prop where
  z4 : w.cell? ⟨0, 0, none⟩ = some (.pointer (some p4))
  z0 : w.cell? ⟨1, 0, none⟩ = some (.pointer none)
  few : 1 < w.heap.size
theorem Zs.nw {w w' : World} {p4 : Addr} (h : Zs w p4) (k : Nw w w') : Zs w' p4 :=
  ⟨by have := h.few; rw [Below.cell k (p := ⟨0, 0, none⟩) (by show 0 < w.heap.size; omega)]; exact h.z4, by rw [Below.cell k (p := ⟨1, 0, none⟩) h.few]; exact h.z0, Nat.lt_of_lt_of_le h.few k.size⟩

set_option maxRecDepth 100000 in
set_option maxHeartbeats 400000 in
theorem isValid_any (lo : Int) (p4 : Addr) (w : World) (hz : Zs w p4) :
    Calls Ybaz.prog 32 #[.agg #[.int .u64 0, .int .u64 lo, .pointer (some p4)]] w fun e w' => e = .returned (.bool true) ∧ Nw w w' := by
  obtain ⟨h4, h0, hg⟩ := hz
  have hg0 : 0 < w.heap.size := by omega
  have e1 := eqNone p4
  go_enter Ybaz.func32, Ybaz.ntmps32
  go_wp2
  go_ret
  exact ⟨rfl, (Nw.refl _).alloc _⟩
set_option maxRecDepth 100000 in
set_option maxHeartbeats 400000 in
theorem isZero_any (lo : Int) (p4 : Addr) (w : World) (hz : Zs w p4) :
    Calls Ybaz.prog 70 #[.agg #[.int .u64 0, .int .u64 lo, .pointer (some p4)]] w fun e w' => e = .returned (.bool false) ∧ Nw w w' := by
  obtain ⟨h4, h0, hg⟩ := hz
  have hg0 : 0 < w.heap.size := by omega
  have e1 := eqNone p4
  go_enter Ybaz.func70, Ybaz.ntmps70
  go_wp2
  go_ret
  exact ⟨rfl, (Nw.refl _).alloc _⟩
set_option maxRecDepth 100000 in
set_option maxHeartbeats 400000 in
theorem is4_any (lo : Int) (p4 : Addr) (w : World) (hz : Zs w p4) :
    Calls Ybaz.prog 53 #[.agg #[.int .u64 0, .int .u64 lo, .pointer (some p4)]] w fun e w' => e = .returned (.bool true) ∧ Nw w w' := by
  obtain ⟨h4, h0, hg⟩ := hz
  have hg0 : 0 < w.heap.size := by omega
  have e1 := eqSame p4
  go_enter Ybaz.func53, Ybaz.ntmps53
  go_wp2
  go_ret
  exact ⟨rfl, (Nw.refl _).alloc _⟩
set_option maxRecDepth 100000 in
set_option maxHeartbeats 400000 in
theorem is6_any (lo : Int) (p4 : Addr) (w : World) (hz : Zs w p4) :
    Calls Ybaz.prog 45 #[.agg #[.int .u64 0, .int .u64 lo, .pointer (some p4)]] w fun e w' => e = .returned (.bool false) ∧ Nw w w' := by
  obtain ⟨h4, h0, hg⟩ := hz
  have hg0 : 0 < w.heap.size := by omega
  have e1 := eqSame p4
  have e2 := eqNone p4
  go_enter Ybaz.func45, Ybaz.ntmps45
  go_wp2
  go_ret
  exact ⟨rfl, (Nw.refl _).alloc _⟩
set_option maxRecDepth 100000 in
set_option maxHeartbeats 400000 in
theorem bitLen_any (lo : Int) (p4 : Addr) (w : World) (hz : Zs w p4) :
    Calls Ybaz.prog 44 #[.agg #[.int .u64 0, .int .u64 lo, .pointer (some p4)]] w fun e w' => e = .returned (.int .i64 32) ∧ Nw w w' := by
  obtain ⟨h4, h0, hg⟩ := hz
  have hg0 : 0 < w.heap.size := by omega
  have e1 := eqSame p4
  have e2 := eqNone p4
  go_enter Ybaz.func44, Ybaz.ntmps44
  go_wp2
  go_ret
  exact ⟨rfl, (Nw.refl _).alloc _⟩
set_option maxRecDepth 100000 in
set_option maxHeartbeats 400000 in
theorem is4in6_any (lo : Int) (p4 : Addr) (w : World) (hz : Zs w p4) :
    Calls Ybaz.prog 52 #[.agg #[.int .u64 0, .int .u64 lo, .pointer (some p4)]] w fun e w' => e = .returned (.bool false) ∧ Nw w w' := by
  go_enter Ybaz.func52, Ybaz.ntmps52
  go_wp2_with fail
  refine (is6_any lo p4 _ (hz.nw ((Nw.refl _).alloc _))).mono ?_
  rintro e w1 ⟨rfl, hb⟩
  go_wp2_with fail
  go_ret
  exact ⟨rfl, ((Nw.refl _).alloc _).trans hb⟩
set_option maxRecDepth 100000 in
set_option maxHeartbeats 400000 in
theorem unmap_any (lo : Int) (p4 : Addr) (w : World) (hz : Zs w p4) :
    Calls Ybaz.prog 40 #[.agg #[.int .u64 0, .int .u64 lo, .pointer (some p4)]] w fun e w' => e = .returned (.agg #[.int .u64 0, .int .u64 lo, .pointer (some p4)]) ∧ Nw w w' := by
  go_enter Ybaz.func40, Ybaz.ntmps40
  go_wp2_with fail
  refine (is4in6_any lo p4 _ (hz.nw (((Nw.refl _).alloc _).alloc _))).mono ?_
  rintro e w1 ⟨rfl, hb⟩
  have hs := hb.size
  obtain ⟨hc, hf⟩ := bcell hb
  have hbb : Hid _ := hb
  clear hb
  simp only [World.size_alloc] at hs hc hf
  have hs1 : w.heap.size + 1 < w1.heap.size := by omega
  go_wp2_with fail
  refine bodyPost_ret (v := .agg #[.int .u64 0, .int .u64 lo, .pointer (some p4)]) (by simp [results, Ybaz.results40, go_sem, hc, hs1]) rfl ⟨rfl, ?_⟩
  exact (((((Nw.refl _).alloc _).alloc _).trans hbb.out).set (by show _ ≤ w.heap.size + 1; omega) _ |>.set (by show _ ≤ w.heap.size + 1; omega) _).set (by show _ ≤ w.heap.size + 1; omega) _
end Go.Proofs.YbulkcbheGreatDoor
