import Derived.Test.YbulkcbigOwn
namespace Go.Proofs.Ybulkcbig
open Go.RowKit
set_option linter.unusedVariables false

theorem own_many {B : Nat} {w w2 : World} {v v' : Value} {xs bs : List Int} (hown : Own B w v xs) (hB : B ≤ w.heap.size)
    (h' : w2.ownsRow B 5 1 v' (xs.length + bs.length) (xs.map (Value.int .u8) ++ bs.map (Value.int .u8))) (hg : w.grownBy w2 v.ownBlock) : Own B w2 v' (xs ++ bs) ∧ Below B w w2 := by
  refine ⟨?_, (Below.refl B w).grown hg hB (fun q hq => (hown.lt q hq).1)⟩
  show w2.ownsRow B 5 1 v' (xs ++ bs).length ((xs ++ bs).map (Value.int .u8))
  rw [List.map_append, List.length_append]
  exact h'

theorem Own.alloc {B : Nat} {w : World} {v : Value} {xs : List Int} (h : Own B w v xs) (o : Obj) : Own B (w.alloc o) v xs := World.ownsRow.alloc h o

theorem le4 (x : Int) (h0 : 0 ≤ x) : le x 4 = [x % 256, x / 256 % 256, x / 65536 % 256, x / 16777216 % 256] := by
  simp [le, byteAt, List.range_succ]

theorem cells_four (w : World) (g : Nat) (hg : g = w.heap.size) (a b c d : Value) (t : TypeId) : ∀ j u, [a, b, c, d][j]? = some u → (w.alloc (.cells #[a, b, c, d] t)).cell? ((⟨g, 0, none⟩ : Addr).add j) = some u := by
  subst hg
  intro j u hj
  match j, hj with
  | 0, hj => simp at hj; subst hj; simp [Addr.add]
  | 1, hj => simp at hj; subst hj; simp [Addr.add]
  | 2, hj => simp at hj; subst hj; simp [Addr.add]
  | 3, hj => simp at hj; subst hj; simp [Addr.add]

set_option maxHeartbeats 800000 in
theorem app32_any (B : Nat) (v : Value) (xs : List Int) (x : Int) (w : World) (hown : Own B w v xs) (hB : B ≤ w.heap.size) (hx0 : 0 ≤ x) (hx1 : x < 4294967296) (hl : xs.length ≤ 1000000000) :
    Calls Yba.prog 18 #[.agg #[], v, .int .u32 x] w fun e w' => ∃ v', e = .returned v' ∧ Own B w' v' (xs ++ le x 4) ∧ Below B w w' := by
  obtain ⟨i0, hi, hz0, hz1, hz2⟩ := info_parts info5
  have HO : Hid (∀ o o', Own B ((w.alloc o).alloc o') v xs) := fun o o' => (hown.alloc o).alloc o'
  have HL : Hid _ := le4 x hx0
  clear hown
  go_enter Yba.func18, Yba.ntmps18
  go_wp2_with (at_builtin; refine wpList_append_own _ rfl _ _ 36 rfl B 5 i0 (.int .u8 0) 1 1 Yba.underlying36 hi hz0 hz1 hz2 rfl (by decide) _ _ _ rfl (HO.out _ _) ⟨w.heap.size + 1, 0, none⟩ 4 4 [_, _, _, _] rfl rfl (cells_four _ _ (by simp) _ _ _ _ _) (fun x hx => by simp at hx; rcases hx with rfl | rfl | rfl | rfl <;> rfl) (by unfold maxLen; omega) (by omega) (by simp; omega) ?_; intro v' w3 hown' hgrow3 hnil3)
  go_ret
  have hbs : le x 4 = [x % 256, x / 256 % 256, x / 65536 % 256, x / 16777216] := by rw [HL.out]; simp; omega
  have hP := own_many (bs := le x 4) (HO.out _ _) (by simp; omega) (by rw [hbs]; exact hown') hgrow3
  exact ⟨_, rfl, hP.1, (((Below.refl B w).alloc hB _).alloc (by simp; omega) _).trans hP.2⟩

/-- The head of a run of n literals. -/
def head (n : Int) : List Int := if n ≤ 29 then [(n - 1) * 8] else (28 + (ext (n - 30) : Int)) * 8 :: le (n - 30) (ext (n - 30))

theorem or0 (x : Int) (h0 : 0 ≤ x) (h1 : x < 256) : bits .or .u8 0 x = x := by
  rw [u8_or 0 x (by omega) (by omega) h0 h1]
  have : (0 : Int).toNat ||| x.toNat = x.toNat := Nat.zero_or _
  rw [this]; omega

set_option maxHeartbeats 800000 in
theorem applen_any (B : Nat) (v : Value) (xs : List Int) (n : Int) (w : World) (hown : Own B w v xs) (hB : B ≤ w.heap.size) (h0 : 1 ≤ n) (h1 : n ≤ 1048576) (hl : xs.length ≤ 100000000) :
    Calls Yba.prog 20 #[v, .int .u8 0, .int .i64 n] w fun e w' => ∃ v', e = .returned v' ∧ Own B w' v' (xs ++ head n) ∧ Below B w w' := by
  obtain ⟨i0, hi, hz0, hz1, hz2⟩ := info_parts info5
  have HO : Hid (Own B w v xs) := hown
  have HOW : Hid _ := fun o : Obj => World.ownsRow.alloc hown o
  clear hown
  by_cases h : n ≤ 29
  · have HH : Hid (head n = [(n - 1) * 8]) := if_pos h
    have hor := or0 ((n - 1) * 8) (by omega) (by omega)
    go_enter Yba.func20, Yba.ntmps20
    go_wp2_with (at_builtin; refine wpList_append_own _ rfl _ _ 36 rfl B 5 i0 (.int .u8 0) 1 1 Yba.underlying36 hi hz0 hz1 hz2 rfl (by decide) _ _ _ rfl (HOW.out _) ⟨w.heap.size, 0, none⟩ 1 1 [_] rfl rfl (cell_one_new _ _ _) (fun x hx => by simp at hx; subst hx; rfl) (by unfold maxLen; omega) (by omega) (by simp; omega) ?_; intro v' w3 hown' hgrow3 hnil3)
    go_ret
    have hP := own_push HO.out hB hown' hgrow3
    exact ⟨_, rfl, by rw [HH.out]; exact hP.1, hP.2⟩
  · have HH : Hid (head n = (28 + (ext (n - 30) : Int)) * 8 :: le (n - 30) (ext (n - 30))) := if_neg h
    have hx := ext_le (n - 30)
    have HC := extra_any (n - 30) w
    have HU := fun v' xs' w' => ule_any B v' xs' (n - 30) (ext (n - 30)) w'
    generalize ext (n - 30) = E at hx HC HH HU
    have HUh : Hid _ := HU
    clear HU
    have hor := or0 ((28 + E) * 8) (by omega) (by omega)
    go_enter Yba.func20, Yba.ntmps20
    go_wp2_with (first
      | (go_at_call 22; refine HC.mono ?_; rintro e w1 ⟨rfl, rfl⟩)
      | (at_builtin; refine wpList_append_own _ rfl _ _ 36 rfl B 5 i0 (.int .u8 0) 1 1 Yba.underlying36 hi hz0 hz1 hz2 rfl (by decide) _ _ _ rfl (HOW.out _) ⟨_, 0, none⟩ 1 1 [_] rfl rfl (cell_one_new _ _ _) (fun x hx => by simp at hx; subst hx; rfl) (by unfold maxLen; omega) (by omega) (by simp; omega) ?_; intro v' w3 hown' hgrow3 hnil3))
    have hP := own_push HO.out hB hown' hgrow3
    refine (HUh.out _ _ _ hP.1 (by have := hP.2.size; omega) (by omega) (by simp; omega)).mono ?_
    rintro e w4 ⟨v4, rfl, hO4, hB4⟩
    go_wp2
    go_ret
    refine ⟨_, rfl, ?_, hP.2.trans hB4⟩
    rw [HH.out]
    simpa using hO4
end Go.Proofs.Ybulkcbig
