import Derived.WalkKit
namespace Go.Proofs.YbulkcbheGreatDoor
open Go
set_option linter.unusedVariables false

theorem and30 (n : Int) (h0 : 0 ≤ n) (h1 : n < 1000000000) : bits .and .u64 n 1073741823 = n := by
  rw [u64_and n 1073741823 h0 (by omega) (by omega) (by omega)]
  have e : (1073741823 : Int).toNat = 2 ^ 30 - 1 := rfl
  rw [e, Nat.and_two_pow_sub_one_eq_mod]
  omega
theorem and63 (n : Int) (h0 : 0 ≤ n) (h1 : n < 1073741824) : bits .and .u64 n 9223372036854775808 = 0 := by
  rw [u64_and n 9223372036854775808 h0 (by omega) (by omega) (by omega)]
  have e : (9223372036854775808 : Int).toNat = 2 ^ 63 := rfl
  rw [e, nat_bit]
  have : n.toNat / 2 ^ 63 = 0 := Nat.div_eq_of_lt (by omega)
  rw [this]; rfl
theorem andNot30 (n : Int) (h0 : 0 ≤ n) (h1 : n < 1000000000) : bits .andNot .u64 n 1073741823 = 0 := by
  rw [u64_andNot n 1073741823 h0 (by omega) (by omega) (by omega)]
  have e : 18446744073709551615 - (1073741823 : Int).toNat = 2 ^ 30 * 17179869183 := rfl
  rw [e]
  have h : n.toNat &&& 2 ^ 30 * 17179869183 = 0 := by
    apply Nat.eq_of_testBit_eq
    intro i
    rw [Nat.testBit_and, Nat.zero_testBit]
    by_cases hi : i < 30
    · have : (2 ^ 30 * 17179869183).testBit i = false := by rw [Nat.testBit_two_pow_mul]; simp; omega
      rw [this, Bool.and_false]
    · have : n.toNat.testBit i = false := Nat.testBit_lt_two_pow (by
        have h2 : n.toNat < 2 ^ 30 := by omega
        exact Nat.lt_of_lt_of_le h2 (Nat.pow_le_pow_right (by omega) (by omega)))
      rw [this, Bool.false_and]
  rw [h]; rfl
theorem or0 (n : Int) (h0 : 0 ≤ n) (h1 : n < 1000000000) : bits .or .u64 0 n = n := by
  rw [u64_or 0 n (by omega) (by omega) h0 (by omega)]
  have : (0 : Int).toNat ||| n.toNat = n.toNat := Nat.zero_or _
  rw [this]; omega
theorem andand (a b : Int) (ha0 : 0 ≤ a) (ha : a < 1000000000) (hb0 : 0 ≤ b) (hb : b < 1000000000) : bits .and .u64 (bits .and .u64 a b) 9223372036854775808 = 0 := by
  rw [u64_and a b ha0 (by omega) hb0 (by omega)]
  have h : a.toNat &&& b.toNat ≤ a.toNat := Nat.and_le_left
  exact and63 _ (by omega) (by omega)
theorem qr (d : Int) : d.tdiv 1000000000 * 1000000000 + d.tmod 1000000000 = d ∧ -1000000000 < d.tmod 1000000000 ∧ d.tmod 1000000000 < 1000000000 := by
  rcases Int.le_total 0 d with h | h
  · rw [Int.tdiv_eq_ediv_of_nonneg h, Int.tmod_eq_emod_of_nonneg h]; omega
  · obtain ⟨e, rfl⟩ : ∃ e, d = -e := ⟨-d, by omega⟩
    have he : 0 ≤ e := by omega
    rw [Int.neg_tdiv, Int.neg_tmod, Int.tdiv_eq_ediv_of_nonneg he, Int.tmod_eq_emod_of_nonneg he]; omega
theorem cmpb (s d : Int) : (decide (s < s + d) == decide (0 < d)) = true := by
  by_cases h : 0 < d
  · have h2 : s < s + d := by omega
    simp [h]; omega
  · have h2 : ¬ s < s + d := by omega
    simp [h]; omega
theorem or_join (i : Nat) (x y : Int) (hx0 : 0 ≤ x) (hx : x < 18446744073709551616) (hy0 : 0 ≤ y) (hy : y < 18446744073709551616) (h1 : x.toNat % 2 ^ i = 0) (h2 : y.toNat < 2 ^ i) : bits .or .u64 x y = x + y := by
  rw [u64_or x y hx0 hx hy0 hy, nat_join i _ _ h1 h2]; omega
end Go.Proofs.YbulkcbheGreatDoor
