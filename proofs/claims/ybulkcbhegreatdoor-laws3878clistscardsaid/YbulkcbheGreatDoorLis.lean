import Derived.Test.YbulkcbheGreatDoorLst
import Derived.Handy
namespace Go.Proofs.YbulkcbheGreatDoor
open Go.RowKit
set_option linter.unusedVariables false
set_option linter.unusedSimpArgs false

set_option maxRecDepth 100000 in
set_option maxHeartbeats 800000 in
theorem less_zero (x y : Int) (w : World) :
    Calls Ybaz.prog 56 #[.agg #[.int .u64 x, .int .u64 0], .agg #[.int .u64 y, .int .u64 0]] w fun e w' => e = .returned (.bool (decide (x < y))) ∧ Nw w w' := by
  rcases Int.lt_trichotomy x y with h | h | h
  · have hd : decide (x < y) = true := decide_eq_true h
    rw [hd]
    go_enter Ybaz.func56, Ybaz.ntmps56
    go_wp2_with fail
    go_ret
    exact ⟨rfl, ((Nw.refl _).alloc _).alloc _⟩
  · subst h
    have hd : decide (x < x) = false := decide_eq_false (by omega)
    rw [hd]
    go_enter Ybaz.func56, Ybaz.ntmps56
    go_wp2_with fail
    go_ret
    exact ⟨rfl, ((Nw.refl _).alloc _).alloc _⟩
  · have hd : decide (x < y) = false := decide_eq_false (by omega)
    have h1 : ¬ x < y := by omega
    have h2 : (x == y) = false := by rw [beq_eq_false_iff_ne]; omega
    rw [hd]
    go_enter Ybaz.func56, Ybaz.ntmps56
    go_wp2_with fail
    go_ret
    exact ⟨by first | rfl | simp [hd, h1], ((Nw.refl _).alloc _).alloc _⟩

set_option maxRecDepth 100000 in
set_option maxHeartbeats 800000 in
theorem clos_any (bn bs bo br bl : Nat) (x f : Int) (w : World) (c0 : w.cell? ⟨bn, 0, none⟩ = some (.int .u64 x)) (c1 : w.cell? ⟨bn, 1, none⟩ = some (.int .u64 0)) (c2 : w.cell? ⟨bs, 0, none⟩ = some (.pointer (some ⟨bl, 0, none⟩))) (c3 : w.cell? ⟨bl, 0, none⟩ = some (.slice (some ⟨br, 0, none⟩) 1 1)) (c4 : w.cell? ⟨bo, 0, none⟩ = some (.int .i64 0))
    (c5 : w.cell? ⟨br, 0, none⟩ = some (.int .u64 f)) (c6 : w.cell? ⟨br, 1, none⟩ = some (.int .u64 0)) :
    Calls Ybaz.prog 55 #[.int .i64 0, .pointer (some ⟨bn, 0, none⟩), .pointer (some ⟨bs, 0, none⟩), .pointer (some ⟨bo, 0, none⟩)] w fun e w' => e = .returned (.bool (decide (x < f))) ∧ Nw w w' := by
  have HL : Hid (∀ w, Calls Ybaz.prog 56 #[.agg #[.int .u64 x, .int .u64 0], .agg #[.int .u64 f, .int .u64 0]] w fun e w' => e = .returned (.bool (decide (x < f))) ∧ Nw w w') := fun w => less_zero x f w
  generalize decide (x < f) = r at HL ⊢
  have hw0 : IntKind.i64.wrap 0 = 0 := by rw [IntKind.wrap_i64]; rfl
  have k0 := fun (w' : World) (h : Nw w w') => h.keep c0
  have k1 := fun (w' : World) (h : Nw w w') => h.keep c1
  have k2 := fun (w' : World) (h : Nw w w') => h.keep c2
  have k3 := fun (w' : World) (h : Nw w w') => h.keep c3
  have k4 := fun (w' : World) (h : Nw w w') => h.keep c4
  have k5 := fun (w' : World) (h : Nw w w') => h.keep c5
  have k6 := fun (w' : World) (h : Nw w w') => h.keep c6
  go_enter Ybaz.func55, Ybaz.ntmps55
  go_wp2_with fail
  refine wp_region_nw (by kernel_rfl) ?_
  repeat (
    refine wpQuiet_step (fun K hK => ?_)
    rw [if_pos (by rfl)]
    apply Exists.intro
    refine ⟨fun w' h' => ?_, hK _ ?_⟩
    (have q0 := k0 w' h'
     have q1 := k1 w' h'
     have q2 := k2 w' h'
     have q3 := k3 w' h'
     have q4 := k4 w' h'
     have q5 := k5 w' h'
     have q6 := k6 w' h'
     have HN : Hid (Nw w w') := h'
     go_simp
     first
       | done
       | (go_at_call 56; exact (HL.out _).mono fun e w'' h => ⟨h.1, HN.out.trans h.2⟩)
       | with_reducible rfl)
    clear hK K
    try (simp only [Act.put, List.setIfInBounds_toArray, List.set_cons_zero, List.set_cons_succ]))
  refine wpQuiet_nil ?_
  intro w2 h2
  have HF : Hid (Nw w w2) := h2
  clear k0 k1 k2 k3 k4 k5 k6 h2
  go_simp
  go_wp2_with fail
  go_ret
  exact ⟨rfl, HF.out⟩

theorem eg55 (args : Array Value) (w : World) : (callFunc 55 args).run Ybaz.prog w = .ok (.enter 55 args) w := by kernel_rfl
set_option maxRecDepth 100000 in
set_option maxHeartbeats 800000 in
theorem search_one (c1 c2 c3 : Value) (r : Bool) (w : World) (hf : Hid (∀ w', Nw w w' → Calls Ybaz.prog 55 #[.int .i64 0, c1, c2, c3] w' fun e w'' => e = .returned (.bool r) ∧ Nw w' w'')) :
    Calls Ybaz.prog 54 #[.int .i64 1, .func (.func 55) #[] #[c1, c2, c3]] w fun e w' => e = .returned (.int .i64 (if r then 0 else 1)) ∧ Nw w w' := by
  have eg := eg55
  cases r
  · go_enter Ybaz.func54, Ybaz.ntmps54
    go_wp2_with fail
    refine wp_loop_rounds 2 ?_
    rw [rounds_succ]
    go_wp2_with fail
    refine (hf.out _ (Nw.refl _)).mono ?_
    rintro e w1 ⟨rfl, hb⟩
    have N1 : Hid (Nw w w1) := hb
    clear hb
    go_wp2_with fail
    rw [rounds_succ]
    go_wp2_with fail
    go_ret
    exact ⟨rfl, N1.out⟩
  · go_enter Ybaz.func54, Ybaz.ntmps54
    go_wp2_with fail
    refine wp_loop_rounds 2 ?_
    rw [rounds_succ]
    go_wp2_with fail
    refine (hf.out _ (Nw.refl _)).mono ?_
    rintro e w1 ⟨rfl, hb⟩
    have N1 : Hid (Nw w w1) := hb
    clear hb
    go_wp2_with fail
    rw [rounds_succ]
    go_wp2_with fail
    go_ret
    exact ⟨rfl, N1.out⟩
end Go.Proofs.YbulkcbheGreatDoor
