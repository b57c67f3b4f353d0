import Derived.Test.YbulkcbheGreatDoorNet
namespace Go.Proofs.YbulkcbheGreatDoor
open Go.RowKit
set_option linter.unusedVariables false
set_option linter.unusedSimpArgs false
set_option maxRecDepth 100000 in
set_option maxHeartbeats 400000 in
theorem addrFrom4_any (a b c d : Int) (p4 : Addr) (w : World) (hz : Zs w p4) (ha0 : 0 ≤ a) (ha : a ≤ 255) (hb0 : 0 ≤ b) (hb : b ≤ 255) (hc0 : 0 ≤ c) (hc : c ≤ 255) (hd0 : 0 ≤ d) (hd : d ≤ 255) :
    Calls Ybaz.prog 10 #[.agg #[.int .u8 a, .int .u8 b, .int .u8 c, .int .u8 d]] w fun e w' => e = .returned (.agg #[.int .u64 0, .int .u64 (281470681743360 + a * 16777216 + b * 65536 + c * 256 + d), .pointer (some p4)]) ∧ Nw w w' := by
  obtain ⟨h4, h0, hg⟩ := hz
  have hg0 : 0 < w.heap.size := by omega
  obtain ⟨L1, hL1⟩ : ∃ L1, L1 = 281470681743360 + a * 16777216 := ⟨_, rfl⟩
  obtain ⟨L2, hL2⟩ : ∃ L2, L2 = L1 + b * 65536 := ⟨_, rfl⟩
  obtain ⟨L3, hL3⟩ : ∃ L3, L3 = L2 + c * 256 := ⟨_, rfl⟩
  obtain ⟨L4, hL4⟩ : ∃ L4, L4 = L3 + d := ⟨_, rfl⟩
  have o1 : bits .or .u64 281470681743360 (a * 16777216) = L1 := by rw [hL1]; exact or_join 32 _ _ (by omega) (by omega) (by omega) (by omega) (by omega) (by omega)
  have o2 : bits .or .u64 L1 (b * 65536) = L2 := by rw [hL2]; exact or_join 24 _ _ (by omega) (by omega) (by omega) (by omega) (by omega) (by omega)
  have o3 : bits .or .u64 L2 (c * 256) = L3 := by rw [hL3]; exact or_join 16 _ _ (by omega) (by omega) (by omega) (by omega) (by omega) (by omega)
  have o4 : bits .or .u64 L3 d = L4 := by rw [hL4]; exact or_join 8 _ _ (by omega) (by omega) (by omega) (by omega) (by omega) (by omega)
  have e : 281470681743360 + a * 16777216 + b * 65536 + c * 256 + d = L4 := by omega
  rw [e]
  clear hL1 hL2 hL3 hL4 e
  go_enter Ybaz.func10, Ybaz.ntmps10
  go_wp2
  refine bodyPost_ret (v := .agg #[.int .u64 0, .int .u64 L4, .pointer (some p4)]) (by simp [results, Ybaz.results10, go_sem]) rfl ⟨rfl, ?_⟩
  exact ((Nw.refl _).alloc _).alloc _

theorem xorAll : bits .xor .u64 (if IntKind.u64.signed = true then -1 else IntKind.u64.max) 0 = 18446744073709551615 := by kernel_rfl
set_option maxRecDepth 100000 in
set_option maxHeartbeats 400000 in
theorem mask6_128 (w : World) : Calls Ybaz.prog 63 #[.int .i64 128] w fun e w' => e = .returned (.agg #[.int .u64 18446744073709551615, .int .u64 18446744073709551615]) ∧ Nw w w' := by
  have hx := xorAll
  go_enter Ybaz.func63, Ybaz.ntmps63
  go_wp2
  go_region
  all_goals go_wp2
  all_goals refine bodyPost_ret (v := .agg #[.int .u64 18446744073709551615, .int .u64 18446744073709551615]) (by simp [results, Ybaz.results63, go_sem]) rfl ⟨rfl, ?_⟩
  all_goals exact ((Nw.refl _).alloc _).drew

theorem andAll (x : Int) (h0 : 0 ≤ x) (h1 : x < 281474976710656) : bits .and .u64 x 18446744073709551615 = x := by
  rw [u64_and x 18446744073709551615 h0 (by omega) (by omega) (by omega)]
  have e : (18446744073709551615 : Int).toNat = 2 ^ 64 - 1 := rfl
  rw [e, Nat.and_two_pow_sub_one_eq_mod]
  omega
set_option maxRecDepth 100000 in
set_option maxHeartbeats 400000 in
theorem and128_any (lo : Int) (w : World) (h0 : 0 ≤ lo) (h1 : lo < 281474976710656) :
    Calls Ybaz.prog 62 #[.agg #[.int .u64 0, .int .u64 lo], .agg #[.int .u64 18446744073709551615, .int .u64 18446744073709551615]] w fun e w' => e = .returned (.agg #[.int .u64 0, .int .u64 lo]) ∧ Nw w w' := by
  have a1 := andAll 0 (by omega) (by omega)
  have a2 := andAll lo h0 h1
  go_enter Ybaz.func62, Ybaz.ntmps62
  go_wp2
  refine bodyPost_ret (v := .agg #[.int .u64 0, .int .u64 lo]) (by simp [results, Ybaz.results62, go_sem]) rfl ⟨rfl, ?_⟩
  exact (((Nw.refl _).alloc _).alloc _).alloc _

set_option maxRecDepth 100000 in
set_option maxHeartbeats 400000 in
theorem withoutZone_any (lo : Int) (p4 : Addr) (w : World) (hz : Zs w p4) :
    Calls Ybaz.prog 71 #[.agg #[.int .u64 0, .int .u64 lo, .pointer (some p4)]] w fun e w' => e = .returned (.agg #[.int .u64 0, .int .u64 lo, .pointer (some p4)]) ∧ Nw w w' := by
  go_enter Ybaz.func71, Ybaz.ntmps71
  go_wp2_with fail
  refine (is6_any lo p4 _ (hz.nw (((Nw.refl _).alloc _).alloc _))).mono ?_
  rintro e w1 ⟨rfl, hb⟩
  have hs := hb.size
  obtain ⟨hc, hf⟩ := bcell hb
  have hbb : Hid _ := hb
  clear hb
  simp only [World.size_alloc] at hs hc hf
  have hs1 : w.heap.size + 1 < w1.heap.size := by omega
  go_wp2_with fail
  refine bodyPost_ret (v := .agg #[.int .u64 0, .int .u64 lo, .pointer (some p4)]) (by simp [results, Ybaz.results71, go_sem, hc, hs1]) rfl ⟨rfl, ?_⟩
  exact (((((Nw.refl _).alloc _).alloc _).trans hbb.out).set (by show _ ≤ w.heap.size + 1; omega) _ |>.set (by show _ ≤ w.heap.size + 1; omega) _).set (by show _ ≤ w.heap.size + 1; omega) _

set_option maxRecDepth 100000 in
set_option maxHeartbeats 400000 in
theorem prefixAddr_any (hi lo : Int) (z : Value) (bp : Int) (p4 : Addr) (w : World) :
    Calls Ybaz.prog 34 #[.agg #[.int .u64 0, .int .u64 lo, .pointer (some p4), .int .u8 bp]] w fun e w' => e = .returned (.agg #[.int .u64 0, .int .u64 lo, .pointer (some p4)]) ∧ Nw w w' := by
  go_enter Ybaz.func34, Ybaz.ntmps34
  go_wp2
  refine bodyPost_ret (v := .agg #[.int .u64 0, .int .u64 lo, .pointer (some p4)]) (by simp [results, Ybaz.results34, go_sem]) rfl ⟨rfl, ?_⟩
  exact ((Nw.refl _).alloc _).alloc _

set_option maxRecDepth 100000 in
set_option maxHeartbeats 400000 in
theorem prefixFrom_any (lo : Int) (p4 : Addr) (w : World) (hz : Zs w p4) :
    Calls Ybaz.prog 64 #[.agg #[.int .u64 0, .int .u64 lo, .pointer (some p4)], .int .i64 32] w fun e w' => e = .returned (.agg #[.int .u64 0, .int .u64 lo, .pointer (some p4), .int .u8 33]) ∧ Nw w w' := by
  go_enter Ybaz.func64, Ybaz.ntmps64
  go_wp2_with fail
  refine (isZero_any lo p4 _ (hz.nw (((Nw.refl _).alloc _).alloc _))).mono ?_
  rintro e w1 ⟨rfl, hb⟩
  have hs := hb.size
  obtain ⟨hc, hf⟩ := bcell hb
  have hbb : Hid _ := hb
  clear hb
  simp only [World.size_alloc] at hs hc hf
  have hs1 : w.heap.size + 1 < w1.heap.size := by omega
  have hs1' : w.heap.size < w1.heap.size := by omega
  go_wp2_with fail
  refine (bitLen_any lo p4 _ ((hz.nw (((Nw.refl _).alloc _).alloc _)).nw hbb.out)).mono ?_
  rintro e w2 ⟨rfl, hb2⟩
  have hs2 := hb2.size
  obtain ⟨hc2, hf2⟩ := bcell hb2
  have hbb2 : Hid _ := hb2
  clear hb2
  have hs3 : w.heap.size + 1 < w2.heap.size := by omega
  have hs3' : w.heap.size < w2.heap.size := by omega
  go_wp2_with fail
  refine (withoutZone_any lo p4 _ (((hz.nw (((Nw.refl _).alloc _).alloc _)).nw hbb.out).nw hbb2.out)).mono ?_
  rintro e w3 ⟨rfl, hb3⟩
  have hs4 := hb3.size
  obtain ⟨hc3, hf3⟩ := bcell hb3
  have hbb3 : Hid _ := hb3
  clear hb3
  have hs5 : w.heap.size + 1 < w3.heap.size := by omega
  have hs5' : w.heap.size < w3.heap.size := by omega
  go_wp2_with fail
  refine bodyPost_ret (v := .agg #[.int .u64 0, .int .u64 lo, .pointer (some p4), .int .u8 33]) (by simp [results, Ybaz.results64, go_sem, hc, hc2, hc3, hs1, hs3, hs5]) rfl ⟨rfl, ?_⟩
  have hx : w.heap.size ≤ w.heap.size + 1 := Nat.le_succ _
  exact (((((((((Nw.refl _).alloc _).alloc _).trans hbb.out).trans hbb2.out).trans hbb3.out).set hx _).set hx _).set hx _).set hx _

end Go.Proofs.YbulkcbheGreatDoor
