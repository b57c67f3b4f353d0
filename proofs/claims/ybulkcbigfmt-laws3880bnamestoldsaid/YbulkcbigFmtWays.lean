import Derived.Test.YbulkcbigFmtFacts
import Derived.WalkKit
import Derived.WalkSpells
namespace Go.Proofs.YbulkcbigFmt
open Go.RowKit Go.Extern.Stop Go.Stop Go.Extern

attribute [local go_sem] Ybaf.call8 Ybaf.guard Ybaf.fmt0 Ybaf.fmt0r Ybaf.op3

/-- The name of a level; empty where there is none. -/
def nameB (i : Int) : ByteArray := if i = 0 then ⟨#[100, 101, 102, 97, 117, 108, 116]⟩ else if i = 1 then ⟨#[115, 116, 111, 114, 101]⟩ else if i = 2 then ⟨#[102, 97, 115, 116, 101, 115, 116]⟩ else if i = 3 then ⟨#[98, 97, 108, 97, 110, 99, 101, 100]⟩ else ⟨#[]⟩

theorem name_any (i : Int) (w : World) : Calls Ybaf.prog 6 #[.int .i64 i] w fun e w' => e = .returned (.string (nameB i)) ∧ w' = w := by
  by_cases h0 : i = 0
  · subst h0
    go_enter Ybaf.func6, Ybaf.ntmps6
    go_wp2
    go_ret
    exact ⟨rfl, rfl⟩
  by_cases h1 : i = 1
  · subst h1
    go_enter Ybaf.func6, Ybaf.ntmps6
    go_wp2
    go_ret
    exact ⟨rfl, rfl⟩
  by_cases h2 : i = 2
  · subst h2
    go_enter Ybaf.func6, Ybaf.ntmps6
    go_wp2
    go_ret
    exact ⟨rfl, rfl⟩
  by_cases h3 : i = 3
  · subst h3
    go_enter Ybaf.func6, Ybaf.ntmps6
    go_wp2
    go_ret
    exact ⟨rfl, rfl⟩
  have e0 : (i == 0) = false := beq_eq_false_iff_ne.2 h0
  have e1 : (i == 1) = false := beq_eq_false_iff_ne.2 h1
  have e2 : (i == 2) = false := beq_eq_false_iff_ne.2 h2
  have e3 : (i == 3) = false := beq_eq_false_iff_ne.2 h3
  go_enter Ybaf.func6, Ybaf.ntmps6
  go_wp2
  go_ret
  exact ⟨by simp [nameB, h0, h1, h2, h3], rfl⟩

theorem impl_any (i : Int) (w : World) : Calls Ybaf.prog 7 #[.int .i64 i] w fun e w' => e = .returned (.bool (decide (0 ≤ i) && decide (i < 4))) ∧ w' = w := by
  by_cases h0 : 0 ≤ i
  · have d0 : decide (0 ≤ i) = true := by simp [h0]
    go_enter Ybaf.func7, Ybaf.ntmps7
    go_wp2
    go_ret
    exact ⟨by simp [h0], rfl⟩
  · have d0 : decide (0 ≤ i) = false := by simp [h0]
    go_enter Ybaf.func7, Ybaf.ntmps7
    go_wp2
    go_ret
    exact ⟨by simp, rfl⟩

theorem string_in (i : Int) (w : World) (h0 : 0 ≤ i) (h4 : i < 4) (c0 : w.cell? ⟨0, i.toNat, none⟩ = some (.string (nameB i))) :
    Calls Ybaf.prog 5 #[.int .i64 i] w fun e w' => e = .returned (.string (nameB i)) ∧ w' = w := by
  have hd : (decide (0 ≤ i) && decide (i < 4)) = true := by simp [h0, h4]
  have HI := impl_any i w
  rw [hd] at HI
  go_enter Ybaf.func5, Ybaf.ntmps5
  go_wp2_with (go_at_call 7; refine HI.mono ?_; rintro e w1 ⟨rfl, rfl⟩)
  go_ret
  exact ⟨rfl, rfl⟩

theorem string_out (F : Interp) (i : Int) (w : World) (hF : F.answers w.tape) (h : ¬ (0 ≤ i ∧ i < 4)) :
    Calls Ybaf.prog 5 #[.int .i64 i] w fun e w' => (∃ s, e = .returned (.string s)) ∧ Below w.heap.size w w' := by
  have hd : (decide (0 ≤ i) && decide (i < 4)) = false := by
    simp only [Bool.and_eq_false_iff, decide_eq_false_iff_not]; omega
  have HI := impl_any i w
  rw [hd] at HI
  have hF' := answers_open hF
  go_enter Ybaf.func5, Ybaf.ntmps5
  go_wp2_with (go_at_call 7; refine HI.mono ?_; rintro e w1 ⟨rfl, rfl⟩)
  go_ret
  exact ⟨⟨_, rfl⟩, ((Below.refl _ _).alloc (Nat.le_refl _) _).drew⟩

theorem names_any (c : Int) (w : World) (h0 : 0 ≤ c) (h1 : c < 256) (k : ∀ i : Int, 0 ≤ i → i < 4 → w.cell? ⟨0, i.toNat, none⟩ = some (.string (nameB i))) :
    Calls Ybaf.prog 3 #[.int .u8 c] w fun e w' => e = .returned (.bool true) ∧ Below w.heap.size w w' := by
  have hm : IntKind.i64.wrap c = c := by simp [IntKind.wrap, IntKind.signed, IntKind.bits]; omega
  have ht : Int.tmod c 4 = c % 4 := Int.tmod_eq_emod_of_nonneg h0
  have hi0 : 0 ≤ c % 4 := by omega
  have hi4 : c % 4 < 4 := by omega
  have hk := k _ hi0 hi4
  clear k
  go_enter Ybaf.func3, Ybaf.ntmps3
  go_wp2_with (first
    | (go_at_call 5; refine (string_in _ _ hi0 hi4 hk).mono ?_; rintro e w1 ⟨rfl, rfl⟩)
    | (go_at_call 6; refine (name_any _ _).mono ?_; rintro e w1 ⟨rfl, rfl⟩))
  go_ret
  exact ⟨rfl, Below.refl _ _⟩

theorem any_in (i : Int) (w : World) (h0 : 0 ≤ i) (h4 : i < 4) (k : w.cell? ⟨0, i.toNat, none⟩ = some (.string (nameB i))) :
    Calls Ybaf.prog 4 #[.int .i64 i] w fun e w' => e = .returned (.bool true) ∧ Below w.heap.size w w' := by
  have d0 : decide (0 ≤ i) = true := by simp [h0]
  have d4 : decide (i < 4) = true := by simp [h4]
  go_enter Ybaf.func4, Ybaf.ntmps4
  go_wp2_with (first
    | (go_at_call 5; refine (string_in _ _ h0 h4 k).mono ?_; rintro e w1 ⟨rfl, rfl⟩)
    | (go_at_call 6; refine (name_any _ _).mono ?_; rintro e w1 ⟨rfl, rfl⟩))
  go_ret
  exact ⟨rfl, Below.refl _ _⟩

theorem any_out (F : Interp) (i : Int) (w : World) (hF : F.answers w.tape) (h : ¬ (0 ≤ i ∧ i < 4)) :
    Calls Ybaf.prog 4 #[.int .i64 i] w fun e w' => e = .returned (.bool true) ∧ Below w.heap.size w w' := by
  by_cases h0 : 0 ≤ i
  · have d0 : decide (0 ≤ i) = true := by simp [h0]
    have d4 : decide (i < 4) = false := by simp; omega
    go_enter Ybaf.func4, Ybaf.ntmps4
    go_wp2_with (go_at_call 5; refine (string_out F _ _ hF h).mono ?_; rintro e w1 ⟨⟨s, rfl⟩, hb⟩)
    go_ret
    exact ⟨rfl, hb⟩
  · have d0 : decide (0 ≤ i) = false := by simp [h0]
    go_enter Ybaf.func4, Ybaf.ntmps4
    go_wp2_with (go_at_call 5; refine (string_out F _ _ hF h).mono ?_; rintro e w1 ⟨⟨s, rfl⟩, hb⟩)
    go_ret
    exact ⟨rfl, hb⟩
end Go.Proofs.YbulkcbigFmt
