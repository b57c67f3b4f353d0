import Derived.Test.YbulkcbheGreatDoorMrk
namespace Go.Proofs.YbulkcbheGreatDoor
open Go.RowKit
set_option linter.unusedVariables false
set_option linter.unusedSimpArgs false

set_option maxRecDepth 100000 in
set_option maxHeartbeats 1000000 in
theorem over_any (be bc : Nat) (tl ct n s : Int) (w : World) (e0 : w.cell? ⟨be, 21, none⟩ = some (.int .u64 n)) (e1 : w.cell? ⟨be, 22, none⟩ = some (.int .i64 s)) (e2 : w.cell? ⟨be, 23, none⟩ = some (.pointer none))
    (HW : Hid (∀ w', Nw w w' → Calls Ybaz.prog 36 #[.pointer (some ⟨bc, 0, none⟩)] w' fun e w'' => e = .returned (.int .i64 tl) ∧ Nw w' w''))
    (HC : Hid (∀ w', Nw w w' → Calls Ybaz.prog 23 #[.pointer (some ⟨be, 0, none⟩), .agg #[.int .u64 n, .int .i64 s, .pointer none]] w' fun e w'' => e = .returned (.int .i64 ct) ∧ Nw w' w''))
    (HA : Hid (∀ w', Nw w w' → Calls Ybaz.prog 37 #[.pointer (some ⟨be, 24, none⟩), .pointer (some ⟨bc, 0, none⟩)] w' fun e w'' => e = .returned (.bool false) ∧ Nw w' w'')) :
    Calls Ybaz.prog 21 #[.pointer (some ⟨be, 0, none⟩), .pointer (some ⟨bc, 0, none⟩)] w fun e w' => e = .returned (.bool (decide (tl ≤ ct))) ∧ Nw w w' := by
  have k0 := fun (w' : World) (h : Nw w w') => h.keep' e0
  have k1 := fun (w' : World) (h : Nw w w') => h.keep' e1
  have k2 := fun (w' : World) (h : Nw w w') => h.keep' e2
  by_cases hle : tl ≤ ct
  · have hd := decide_eq_true hle
    rw [hd]
    go_enter Ybaz.func21, Ybaz.ntmps21
    go_wp2_with fail
    refine wp_region_nw' (by kernel_rfl) ?_
    repeat (
      refine wpQuiet_step (fun K hK => ?_)
      first
        | (rw [if_pos (by rfl)]
           apply Exists.intro
           refine ⟨fun w' h' => ?_, hK _ ?_⟩
           (have q0 := k0 w' h'
            have q1 := k1 w' h'
            have q2 := k2 w' h'
            have HN : Hid (Nw w w') := h'
            go_simp
            first
              | done
              | (go_at_call 36; exact (HW.out _ HN.out).mono fun e w'' h => ⟨h.1, HN.out.trans h.2⟩)
              | (go_at_call 23; exact (HC.out _ HN.out).mono fun e w'' h => ⟨h.1, HN.out.trans h.2⟩)
              | (go_at_call 37; exact (HA.out _ HN.out).mono fun e w'' h => ⟨h.1, HN.out.trans h.2⟩)
              | with_reducible rfl)
           clear hK K
           try (simp only [Act.put, List.setIfInBounds_toArray, List.set_cons_zero, List.set_cons_succ, hd]))
        | (go_simp
           refine hK _ ?_
           clear hK K))
    refine wpQuiet_nil ?_
    intro w2 h2
    have HF : Hid (Nw w w2) := h2
    clear k0 k1 k2 h2
    go_simp
    go_wp2_with fail
    go_ret
    exact ⟨rfl, HF.out⟩
  · have hd := decide_eq_false hle
    rw [hd]
    go_enter Ybaz.func21, Ybaz.ntmps21
    go_wp2_with fail
    refine wp_region_nw' (by kernel_rfl) ?_
    repeat (
      refine wpQuiet_step (fun K hK => ?_)
      first
        | (rw [if_pos (by rfl)]
           apply Exists.intro
           refine ⟨fun w' h' => ?_, hK _ ?_⟩
           (have q0 := k0 w' h'
            have q1 := k1 w' h'
            have q2 := k2 w' h'
            have HN : Hid (Nw w w') := h'
            go_simp
            first
              | done
              | (go_at_call 36; exact (HW.out _ HN.out).mono fun e w'' h => ⟨h.1, HN.out.trans h.2⟩)
              | (go_at_call 23; exact (HC.out _ HN.out).mono fun e w'' h => ⟨h.1, HN.out.trans h.2⟩)
              | (go_at_call 37; exact (HA.out _ HN.out).mono fun e w'' h => ⟨h.1, HN.out.trans h.2⟩)
              | with_reducible rfl)
           clear hK K
           try (simp only [Act.put, List.setIfInBounds_toArray, List.set_cons_zero, List.set_cons_succ, hd]))
        | (go_simp
           refine hK _ ?_
           clear hK K))
    refine wpQuiet_nil ?_
    intro w2 h2
    have HF : Hid (Nw w w2) := h2
    clear k0 k1 k2 h2
    go_simp
    go_wp2_with fail
    go_ret
    exact ⟨rfl, HF.out⟩
end Go.Proofs.YbulkcbheGreatDoor
