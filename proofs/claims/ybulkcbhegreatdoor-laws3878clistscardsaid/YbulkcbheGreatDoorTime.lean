import Derived.Test.YbulkcbheGreatDoorRows
import Derived.Test.YbulkcbheGreatDoorBits
import Derived.WalkSpells
import Derived.Deep.QuietTactic
import Derived.BigQuiet
import Derived.Deep.LoopGhost
import Derived.Deep.RegionWith
import Derived.Deep.CutRange
namespace Go.Proofs.YbulkcbheGreatDoor
open Go.RowKit
set_option linter.unusedVariables false

/-- Nothing that was there has turned. -/
def Nw (w w' : World) : Prop := Below w.heap.size w w'
theorem Nw.refl (w : World) : Nw w w := Below.refl _ _
theorem Nw.alloc {w a : World} (h : Nw w a) (o : Obj) : Nw w (a.alloc o) := Below.alloc h h.size o
theorem Nw.drew {w a : World} (h : Nw w a) : Nw w a.drew := Below.drew h
theorem Nw.drewN {w a : World} (h : Nw w a) (n : Nat) : Nw w (a.drewN n) := ⟨h.os, h.tape, h.output, h.size, h.block⟩
theorem Nw.trans {a b c : World} (h : Nw a b) (k : Nw b c) : Nw a c := Below.trans h (Below.mono k h.size)
theorem Nw.set {w a : World} (h : Nw w a) {p : Addr} (hp : w.heap.size ≤ p.block) (v : Value) : Nw w (a.setCell p v) := Below.setCell h hp v
theorem bcell {W w1 : World} (hb : Nw W w1) : (∀ b o, b < W.heap.size → w1.cell? ⟨b, o, none⟩ = W.cell? ⟨b, o, none⟩) ∧ (∀ b o, b < W.heap.size → w1.frozen? ⟨b, o, none⟩ = W.frozen? ⟨b, o, none⟩) :=
  ⟨fun b o h => Below.cell hb (p := ⟨b, o, none⟩) h, fun b o h => Below.frozen hb (p := ⟨b, o, none⟩) h⟩

set_option maxHeartbeats 400000 in
theorem nsec_any (b o : Nat) (n : Int) (w : World) (h0 : 0 ≤ n) (h1 : n < 1000000000) (hc : w.cell? ⟨b, o, none⟩ = some (.int .u64 n)) :
    Calls Ybaz.prog 27 #[.pointer (some ⟨b, o, none⟩)] w fun e w' => e = .returned (.int .i32 n) ∧ w' = w := by
  have hm := and30 n h0 h1
  go_enter Ybaz.func27, Ybaz.ntmps27
  go_wp2
  go_ret
  exact ⟨rfl, rfl⟩

set_option maxHeartbeats 400000 in
theorem sec_any (b o : Nat) (n s : Int) (w : World) (h0 : 0 ≤ n) (h1 : n < 1000000000) (hc : w.cell? ⟨b, o, none⟩ = some (.int .u64 n)) (hs : w.cell? ⟨b, o + 1, none⟩ = some (.int .i64 s)) :
    Calls Ybaz.prog 30 #[.pointer (some ⟨b, o, none⟩)] w fun e w' => e = .returned (.int .i64 s) ∧ w' = w := by
  have hm := and63 n h0 (by omega)
  go_enter Ybaz.func30, Ybaz.ntmps30
  go_wp2
  go_ret
  exact ⟨rfl, rfl⟩

set_option maxHeartbeats 400000 in
theorem addSec_any (b o : Nat) (n s d : Int) (w : World) (h0 : 0 ≤ n) (h1 : n < 1000000000) (hs1 : -1000000 ≤ s) (hs2 : s ≤ 1000000) (hd1 : -1000000 ≤ d) (hd2 : d ≤ 1000000)
    (hc : w.cell? ⟨b, o, none⟩ = some (.int .u64 n)) (hs : w.cell? ⟨b, o + 1, none⟩ = some (.int .i64 s)) (hf : w.frozen? ⟨b, o + 1, none⟩ = false) :
    Calls Ybaz.prog 28 #[.pointer (some ⟨b, o, none⟩), .int .i64 d] w fun e w' => e = .returned (.tuple #[]) ∧ w' = w.setCell ⟨b, o + 1, none⟩ (.int .i64 (s + d)) := by
  have hm := and63 n h0 (by omega)
  have hcm := cmpb s d
  rcases (show 0 < d ∨ d ≤ 0 by omega) with hp | hp
  · go_enter Ybaz.func28, Ybaz.ntmps28
    go_wp2
    go_end0
    exact ⟨rfl, rfl⟩
  · go_enter Ybaz.func28, Ybaz.ntmps28
    go_wp2
    go_end0
    exact ⟨rfl, rfl⟩

/-- A time: nanoseconds within the second, seconds, no location. -/
def tv (n s : Int) : Value := .agg #[.int .u64 n, .int .i64 s, .pointer none]

set_option maxHeartbeats 1000000 in
theorem add_any (n s d : Int) (w : World) (h0 : 0 ≤ n) (h1 : n < 1000000000) (hs1 : -100000 ≤ s) (hs2 : s ≤ 100000) (hd1 : -10000000000 ≤ d) (hd2 : d ≤ 10000000000) :
    Calls Ybaz.prog 9 #[.agg #[.int .u64 n, .int .i64 s, .pointer none], .int .i64 d] w fun e w' => ∃ n' s' : Int, e = .returned (.agg #[.int .u64 n', .int .i64 s', .pointer none]) ∧ 0 ≤ n' ∧ n' < 1000000000 ∧ s' * 1000000000 + n' = s * 1000000000 + n + d ∧ Nw w w' := by
  obtain ⟨hqr, hr1, hr2⟩ := qr d
  obtain ⟨q, hq⟩ : ∃ q, d.tdiv 1000000000 = q := ⟨_, rfl⟩
  obtain ⟨r, hr⟩ : ∃ r, d.tmod 1000000000 = r := ⟨_, rfl⟩
  rw [hq, hr] at hqr
  rw [hr] at hr1 hr2
  have HQ : Hid (q * 1000000000 + r = d) := hqr
  have hq1 : -100 ≤ q := by omega
  have hq2 : q ≤ 100 := by omega
  have hm := and63 n h0 (by omega)
  have hx := andNot30 n h0 h1
  clear hqr
  go_enter Ybaz.func9, Ybaz.ntmps9
  go_wp2_with fail
  refine (nsec_any _ _ n _ h0 h1 (by go_simp)).mono ?_
  rintro e w1 ⟨rfl, rfl⟩
  rcases (show 1000000000 ≤ n + r ∨ n + r < 0 ∨ (0 ≤ n + r ∧ n + r < 1000000000) by omega) with hc | hc | ⟨hc, hc2⟩
  · have hb1 := or0 (n + r - 1000000000) (by omega) (by omega)
    have hb2 := and63 (n + r - 1000000000) (by omega) (by omega)
    have hfit : -1000000 ≤ q + 1 ∧ q + 1 ≤ 1000000 := by omega
    go_wp2_with fail
    refine (addSec_any _ _ (n + r - 1000000000) s (q + 1) _ (by omega) (by omega) (by omega) (by omega) (by omega) (by omega) (by go_simp) (by go_simp) (by go_simp)).mono ?_
    rintro e w2 ⟨rfl, rfl⟩
    go_wp2_with fail
    refine bodyPost_ret (v := .agg #[.int .u64 (n + r - 1000000000), .int .i64 (s + (q + 1)), .pointer none]) (by simp [results, Ybaz.results9, go_sem]) rfl ⟨n + r - 1000000000, s + (q + 1), rfl, by omega, by omega, by have := HQ.out; omega, ?_⟩
    exact ((Nw.refl _).alloc _).alloc _
  · have hb1 := or0 (n + r + 1000000000) (by omega) (by omega)
    have hb2 := and63 (n + r + 1000000000) (by omega) (by omega)
    have hfit : -1000000 ≤ q - 1 ∧ q - 1 ≤ 1000000 := by omega
    go_wp2_with fail
    refine (addSec_any _ _ (n + r + 1000000000) s (q - 1) _ (by omega) (by omega) (by omega) (by omega) (by omega) (by omega) (by go_simp) (by go_simp) (by go_simp)).mono ?_
    rintro e w2 ⟨rfl, rfl⟩
    go_wp2_with fail
    refine bodyPost_ret (v := .agg #[.int .u64 (n + r + 1000000000), .int .i64 (s + (q - 1)), .pointer none]) (by simp [results, Ybaz.results9, go_sem]) rfl ⟨n + r + 1000000000, s + (q - 1), rfl, by omega, by omega, by have := HQ.out; omega, ?_⟩
    exact ((Nw.refl _).alloc _).alloc _
  · have hb1 := or0 (n + r) (by omega) (by omega)
    have hb2 := and63 (n + r) (by omega) (by omega)
    have hfit : -1000000 ≤ q ∧ q ≤ 1000000 := by omega
    go_wp2_with fail
    refine (addSec_any _ _ (n + r) s (q) _ (by omega) (by omega) (by omega) (by omega) (by omega) (by omega) (by go_simp) (by go_simp) (by go_simp)).mono ?_
    rintro e w2 ⟨rfl, rfl⟩
    go_wp2_with fail
    refine bodyPost_ret (v := .agg #[.int .u64 (n + r), .int .i64 (s + (q)), .pointer none]) (by simp [results, Ybaz.results9, go_sem]) rfl ⟨n + r, s + (q), rfl, by omega, by omega, by have := HQ.out; omega, ?_⟩
    exact ((Nw.refl _).alloc _).alloc _

set_option maxHeartbeats 1000000 in
theorem before_any (n s m u : Int) (w : World) (h0 : 0 ≤ n) (h1 : n < 1000000000) (k0 : 0 ≤ m) (k1 : m < 1000000000) :
    Calls Ybaz.prog 51 #[.agg #[.int .u64 n, .int .i64 s, .pointer none], .agg #[.int .u64 m, .int .i64 u, .pointer none]] w fun e w' => e = .returned (.bool (decide (s * 1000000000 + n < u * 1000000000 + m))) ∧ Nw w w' := by
  have hm := andand n m h0 h1 k0 k1
  rcases Int.lt_trichotomy s u with hc | hc | hc
  · have hd : decide (s * 1000000000 + n < u * 1000000000 + m) = true := decide_eq_true (by omega)
    rw [hd]
    go_enter Ybaz.func51, Ybaz.ntmps51
    go_wp2_with fail
    refine (sec_any _ _ n s _ h0 h1 (by go_simp) (by go_simp)).mono ?_
    rintro e w1 ⟨rfl, rfl⟩
    go_wp2_with fail
    refine (sec_any _ _ m u _ k0 k1 (by go_simp) (by go_simp)).mono ?_
    rintro e w1 ⟨rfl, rfl⟩
    go_wp2_with fail
    go_ret
    exact ⟨rfl, ((Nw.refl _).alloc _).alloc _⟩
  · subst hc
    have hd : decide (s * 1000000000 + n < s * 1000000000 + m) = decide (n < m) := by by_cases h : n < m <;> simp [h]
    rw [hd]
    go_enter Ybaz.func51, Ybaz.ntmps51
    go_wp2_with fail
    refine (sec_any _ _ n s _ h0 h1 (by go_simp) (by go_simp)).mono ?_
    rintro e w1 ⟨rfl, rfl⟩
    go_wp2_with fail
    refine (sec_any _ _ m s _ k0 k1 (by go_simp) (by go_simp)).mono ?_
    rintro e w1 ⟨rfl, rfl⟩
    go_wp2_with fail
    refine (nsec_any _ _ n _ h0 h1 (by go_simp)).mono ?_
    rintro e w1 ⟨rfl, rfl⟩
    go_wp2_with fail
    refine (nsec_any _ _ m _ k0 k1 (by go_simp)).mono ?_
    rintro e w1 ⟨rfl, rfl⟩
    go_wp2_with fail
    go_ret
    exact ⟨rfl, ((Nw.refl _).alloc _).alloc _⟩
  · have hd : decide (s * 1000000000 + n < u * 1000000000 + m) = false := decide_eq_false (by omega)
    have hsu : ¬ s < u := by omega
    have hse : (s == u) = false := by rw [beq_eq_false_iff_ne]; omega
    rw [hd]
    go_enter Ybaz.func51, Ybaz.ntmps51
    go_wp2_with fail
    refine (sec_any _ _ n s _ h0 h1 (by go_simp) (by go_simp)).mono ?_
    rintro e w1 ⟨rfl, rfl⟩
    go_wp2_with fail
    refine (sec_any _ _ m u _ k0 k1 (by go_simp) (by go_simp)).mono ?_
    rintro e w1 ⟨rfl, rfl⟩
    go_wp2_with fail
    go_ret
    exact ⟨congrArg (fun b => Ending.returned (Value.bool b)) (decide_eq_false (by omega)), ((Nw.refl _).alloc _).alloc _⟩

set_option maxHeartbeats 1000000 in
theorem equal_any (n s m u : Int) (w : World) (h0 : 0 ≤ n) (h1 : n < 1000000000) (k0 : 0 ≤ m) (k1 : m < 1000000000) :
    Calls Ybaz.prog 12 #[.agg #[.int .u64 n, .int .i64 s, .pointer none], .agg #[.int .u64 m, .int .i64 u, .pointer none]] w fun e w' => e = .returned (.bool (decide (s * 1000000000 + n = u * 1000000000 + m))) ∧ Nw w w' := by
  have hm := andand n m h0 h1 k0 k1
  by_cases hc : s = u
  · subst hc
    have hd : decide (s * 1000000000 + n = s * 1000000000 + m) = (n == m) := by by_cases h : n = m <;> simp [h]
    rw [hd]
    have hss : (s == s) = true := by simp
    go_enter Ybaz.func12, Ybaz.ntmps12
    go_wp2_with fail
    refine (sec_any _ _ n s _ h0 h1 (by go_simp) (by go_simp)).mono ?_
    rintro e w1 ⟨rfl, rfl⟩
    go_wp2_with fail
    refine (sec_any _ _ m s _ k0 k1 (by go_simp) (by go_simp)).mono ?_
    rintro e w1 ⟨rfl, rfl⟩
    go_wp2_with fail
    refine (nsec_any _ _ n _ h0 h1 (by go_simp)).mono ?_
    rintro e w1 ⟨rfl, rfl⟩
    go_wp2_with fail
    refine (nsec_any _ _ m _ k0 k1 (by go_simp)).mono ?_
    rintro e w1 ⟨rfl, rfl⟩
    go_wp2_with fail
    go_ret
    exact ⟨rfl, ((Nw.refl _).alloc _).alloc _⟩
  · have hd : decide (s * 1000000000 + n = u * 1000000000 + m) = false := decide_eq_false (by omega)
    have hse : (s == u) = false := by rw [beq_eq_false_iff_ne]; omega
    rw [hd]
    go_enter Ybaz.func12, Ybaz.ntmps12
    go_wp2_with fail
    refine (sec_any _ _ n s _ h0 h1 (by go_simp) (by go_simp)).mono ?_
    rintro e w1 ⟨rfl, rfl⟩
    go_wp2_with fail
    refine (sec_any _ _ m u _ k0 k1 (by go_simp) (by go_simp)).mono ?_
    rintro e w1 ⟨rfl, rfl⟩
    go_wp2_with fail
    go_ret
    exact ⟨rfl, ((Nw.refl _).alloc _).alloc _⟩

set_option maxHeartbeats 400000 in
theorem isZero_zero (w : World) :
    Calls Ybaz.prog 11 #[.agg #[.int .u64 0, .int .i64 0, .pointer none]] w fun e w' => e = .returned (.bool true) ∧ Nw w w' := by
  go_enter Ybaz.func11, Ybaz.ntmps11
  go_wp2
  go_ret
  exact ⟨rfl, (Nw.refl _).alloc _⟩
end Go.Proofs.YbulkcbheGreatDoor
