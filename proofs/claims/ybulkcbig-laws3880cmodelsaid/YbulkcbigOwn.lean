import Derived.Test.YbulkcbigRows
import Derived.WalkKit
import Derived.WalkSpells
import Derived.WalkLawsBesides
import Derived.Lib.EndianBits
namespace Go.Proofs.Ybulkcbig
open Go.RowKit
set_option linter.unusedVariables false

/-- A slice of bytes of the call's own, from block B on. -/
def Own (B : Nat) (w : World) (v : Value) (xs : List Int) : Prop := w.ownsRow B 5 1 v xs.length (xs.map (Value.int .u8))

theorem own_one {B : Nat} {w : World} {v : Value} {xs : List Int} (h : Own B w v xs) : ∃ a len cap, v = .slice a len cap := by
  rcases h.2 with ⟨rfl, _⟩ | ⟨g, cap, cur, rfl, _⟩
  · exact ⟨_, _, _, rfl⟩
  · exact ⟨_, _, _, rfl⟩

/-- How many bytes a length's rest takes. -/
def ext (n : Int) : Nat := if n < 256 then 1 else if n < 65536 then 2 else 3
/-- The i-th byte of v. -/
def byteAt (v : Int) (i : Nat) : Int := v / (256 ^ i : Nat) % 256
/-- The low n bytes of v. -/
def le (v : Int) (n : Nat) : List Int := (List.range n).map (byteAt v)

theorem le_succ (v : Int) (n : Nat) : le v (n + 1) = le v n ++ [byteAt v n] := by
  simp [le, List.range_succ]
theorem le_len (v : Int) (n : Nat) : (le v n).length = n := by simp [le]

theorem ext2 (n : Int) (h1 : ¬ n < 256) (h2 : n < 65536) : ext n = 2 := by simp only [ext, h1, h2, if_true, if_false]
theorem ext3 (n : Int) (h1 : ¬ n < 256) (h2 : ¬ n < 65536) : ext n = 3 := by simp only [ext, h1, h2, if_false]
theorem ext_le (n : Int) : ext n ≤ 3 := by unfold ext; split; omega; split; omega; omega
theorem info5 : (Yba.prog.info? 5).map (fun i => (i.zero, i.size, i.bytes)) = some (some (.int .u8 0), 1, 1) := by kernel_rfl

theorem ext_any (n : Int) (w : World) : Calls Yba.prog 10 #[.int .i64 n] w fun e w' => e = .returned (.int .i64 (ext n)) ∧ w' = w := by
  by_cases h1 : n < 256
  · go_enter Yba.func10, Yba.ntmps10
    go_wp2
    go_ret
    exact ⟨by simp [ext, h1], rfl⟩
  · by_cases h2 : n < 65536
    · have e2 := ext2 n h1 h2
      go_enter Yba.func10, Yba.ntmps10
      go_wp2
      go_ret
      exact ⟨rfl, rfl⟩
    · have e3 := ext3 n h1 h2
      go_enter Yba.func10, Yba.ntmps10
      go_wp2
      go_ret
      exact ⟨rfl, rfl⟩

theorem extra_any (n : Int) (w : World) : Calls Yba.prog 22 #[.int .i64 n] w fun e w' => e = .returned (.int .i64 (ext n)) ∧ w' = w := by
  by_cases h1 : n < 256
  · go_enter Yba.func22, Yba.ntmps22
    go_wp2
    go_ret
    exact ⟨by simp [ext, h1], rfl⟩
  · by_cases h2 : n < 65536
    · have e2 := ext2 n h1 h2
      go_enter Yba.func22, Yba.ntmps22
      go_wp2
      go_ret
      exact ⟨rfl, rfl⟩
    · have e3 := ext3 n h1 h2
      go_enter Yba.func22, Yba.ntmps22
      go_wp2
      go_ret
      exact ⟨rfl, rfl⟩

theorem and255 (n : Int) : bits .and .i64 n 255 = n % 256 := by
  have h : (BitVec.ofInt 64 255).toNat = 2 ^ 8 - 1 := by decide
  have key : (BitVec.ofInt 64 n &&& BitVec.ofInt 64 255).toNat = (n % ((2 ^ 64 : Nat) : Int)).toNat % 2 ^ 8 := by
    rw [BitVec.toNat_and, BitVec.toNat_ofInt, h, Nat.and_two_pow_sub_one_eq_mod]
  show IntKind.i64.wrap ((BitVec.ofInt 64 n &&& BitVec.ofInt 64 255).toNat : Nat) = n % 256
  rw [key, IntKind.wrap_i64]
  omega

theorem div_next (x : Int) (k : Nat) : x / (256 ^ k : Nat) / 256 = x / (256 ^ (k + 1) : Nat) := by
  rw [Int.ediv_ediv_of_nonneg (Int.natCast_nonneg _)]
  congr 1

/-- One byte more. -/
theorem own_push {B : Nat} {w w2 : World} {v v' : Value} {xs : List Int} {b : Int} {o : Obj} (hown : Own B w v xs) (hB : B ≤ w.heap.size)
    (h' : w2.ownsRow B 5 1 v' (xs.length + 1) (xs.map (Value.int .u8) ++ [.int .u8 b])) (hg : (w.alloc o).grownBy w2 v.ownBlock) : Own B w2 v' (xs ++ [b]) ∧ Below B w w2 := by
  refine ⟨?_, ((Below.refl B w).alloc hB o).grown hg (by simp; omega) (fun q hq => (hown.lt q hq).1)⟩
  show w2.ownsRow B 5 1 v' (xs ++ [b]).length ((xs ++ [b]).map (Value.int .u8))
  rw [List.map_append, List.length_append]
  exact h'

set_option maxHeartbeats 800000 in
theorem cle_any (B : Nat) (v : Value) (xs : List Int) (x : Int) (n : Nat) (w : World) (hown : Own B w v xs) (hB : B ≤ w.heap.size) (hn : n ≤ 4) (hl : xs.length ≤ 1000000000) :
    Calls Yba.prog 11 #[v, .int .i64 x, .int .i64 n] w fun e w' => ∃ v', e = .returned v' ∧ Own B w' v' (xs ++ le x n) ∧ Below B w w' := by
  obtain ⟨i0, hi, hz0, hz1, hz2⟩ := info_parts info5
  go_enter Yba.func11, Yba.ntmps11
  go_wp2
  go_loopw [0, 1, 7] (fun vr yr ir wr => ∃ k : Nat, k ≤ n ∧ ir = .int .i64 k ∧ yr = .int .i64 (x / (256 ^ k : Nat)) ∧ Own B wr vr (xs ++ le x k) ∧ Below B w wr)
    (fun _ _ i _ => n - (intOf i).toNat)
  case atStart => exact ⟨0, by omega, rfl, by simp, by simpa [le] using hown, Below.refl _ _⟩
  case round =>
    obtain ⟨k, hk, rfl, rfl, hownk, hbk⟩ := hrel
    have hsz := hbk.size
    have hlen : (xs ++ le x k).length ≤ 1000000004 := by rw [List.length_append, le_len]; omega
    have hnext := div_next x k
    have hbb : byteAt x k = x / (256 ^ k : Nat) % 256 := rfl
    have hlk := le_succ x k
    generalize x / (256 ^ k : Nat) = y at hnext hbb ⊢
    have h255 := and255 y
    have HO : Hid (Own B wr u0 (xs ++ le x k)) := hownk
    have HOW : Hid _ := fun o : Obj => World.ownsRow.alloc hownk o
    clear hownk
    have HX : Hid _ := hnext
    have HY : Hid _ := hbb
    have HZ : Hid _ := hlk
    clear hnext hbb hlk
    go_wp2_with (at_builtin; refine wpList_append_own _ rfl _ _ 36 rfl B 5 i0 (.int .u8 0) 1 1 Yba.underlying36 hi hz0 hz1 hz2 rfl (by decide) _ _ _ rfl (HOW.out _) ⟨wr.heap.size, 0, none⟩ 1 1 [_] rfl rfl (cell_one_new _ _ _) (fun x hx => by simp at hx; subst hx; rfl) (by unfold maxLen; omega) (by omega) (by simp; omega) ?_; intro v' w3 hown' hgrow3 hnil3)
    · have hP := own_push HO.out (by omega) hown' hgrow3
      rw [← HY.out, List.append_assoc, ← HZ.out] at hP
      refine ⟨⟨k + 1, by omega, rfl, by rw [HX.out], hP.1, hbk.trans hP.2⟩, ?_⟩
      simp [intOf]; omega
    · have hkn : k = n := by omega
      subst hkn
      go_ret
      exact ⟨_, rfl, HO.out, hbk⟩

set_option maxHeartbeats 800000 in
theorem ule_any (B : Nat) (v : Value) (xs : List Int) (x : Int) (n : Nat) (w : World) (hown : Own B w v xs) (hB : B ≤ w.heap.size) (hn : n ≤ 4) (hl : xs.length ≤ 1000000000) :
    Calls Yba.prog 19 #[v, .int .i64 x, .int .i64 n] w fun e w' => ∃ v', e = .returned v' ∧ Own B w' v' (xs ++ le x n) ∧ Below B w w' := by
  obtain ⟨i0, hi, hz0, hz1, hz2⟩ := info_parts info5
  go_enter Yba.func19, Yba.ntmps19
  go_wp2
  go_loopw [0, 7, 9] (fun vr _ ir wr => ∃ k : Nat, k ≤ n ∧ ir = .int .i64 k ∧ Own B wr vr (xs ++ le x k) ∧ Below B w wr)
    (fun _ _ i _ => n - (intOf i).toNat)
  case atStart => exact ⟨0, by omega, rfl, by simpa [le] using hown, Below.refl _ _⟩
  case round =>
    obtain ⟨k, hk, rfl, hownk, hbk⟩ := hrel
    have hsz := hbk.size
    have hlen : (xs ++ le x k).length ≤ 1000000004 := by rw [List.length_append, le_len]; omega
    have hlk := le_succ x k
    have hbb : byteAt x k = x / 2 ^ (8 * k) % 256 := by
      unfold byteAt
      rw [show ((256 ^ k : Nat) : Int) = 2 ^ (8 * k) by rw [Int.pow_mul]; simp]
    have HO : Hid (Own B wr u0 (xs ++ le x k)) := hownk
    have HOW : Hid _ := fun o : Obj => World.ownsRow.alloc hownk o
    clear hownk
    have HY : Hid _ := hbb
    have HZ : Hid _ := hlk
    clear hbb hlk
    go_wp2_with (at_builtin; refine wpList_append_own _ rfl _ _ 36 rfl B 5 i0 (.int .u8 0) 1 1 Yba.underlying36 hi hz0 hz1 hz2 rfl (by decide) _ _ _ rfl (HOW.out _) ⟨wr.heap.size, 0, none⟩ 1 1 [_] rfl rfl (cell_one_new _ _ _) (fun x hx => by simp at hx; subst hx; rfl) (by unfold maxLen; omega) (by omega) (by simp; omega) ?_; intro v' w3 hown' hgrow3 hnil3)
    · have hP := own_push HO.out (by omega) hown' hgrow3
      rw [← HY.out, List.append_assoc, ← HZ.out] at hP
      refine ⟨⟨k + 1, by omega, rfl, hP.1, hbk.trans hP.2⟩, ?_⟩
      simp [intOf]; omega
    · have hkn : k = n := by omega
      subst hkn
      go_ret
      exact ⟨_, rfl, HO.out, hbk⟩

theorem code_any (n : Int) (w : World) (h0 : 4 ≤ n) (h1 : n < 1000000000) : Calls Yba.prog 17 #[.int .i64 n] w fun e w' => e = .returned (.tuple #[.int .i64 (if n ≤ 64 then n - 4 else 60 + ext (n - 64)), .int .i64 (if n ≤ 64 then 0 else ext (n - 64))]) ∧ w' = w := by
  by_cases h : n ≤ 64
  · have e1 : (if n ≤ 64 then n - 4 else 60 + (ext (n - 64) : Int)) = n - 4 := if_pos h
    have e2 : (if n ≤ 64 then 0 else (ext (n - 64) : Int)) = 0 := if_pos h
    rw [e1, e2]
    go_enter Yba.func17, Yba.ntmps17
    go_wp2
    go_ret2
    exact ⟨rfl, rfl⟩
  · have e1 : (if n ≤ 64 then n - 4 else 60 + (ext (n - 64) : Int)) = 60 + (ext (n - 64) : Int) := if_neg h
    have e2 : (if n ≤ 64 then 0 else (ext (n - 64) : Int)) = (ext (n - 64) : Int) := if_neg h
    rw [e1, e2]
    have hx := ext_le (n - 64)
    generalize hE : ext (n - 64) = E at hx ⊢
    have HC := extra_any (n - 64) w
    rw [hE] at HC
    go_enter Yba.func17, Yba.ntmps17
    go_wp2_with (go_at_call 22; refine HC.mono ?_; rintro e w1 ⟨rfl, rfl⟩)
    go_ret2
    exact ⟨rfl, rfl⟩
end Go.Proofs.Ybulkcbig
