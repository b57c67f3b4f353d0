import Derived.Test.YbulkcbheGreatDoorLaid
import Derived.Test.YbulkcbheGreatDoorLists
namespace Go.Proofs.YbulkcbheGreatDoor
open Go.ChangeShapes Go.WideShapes Go.ChangeAt Go.RowKit
set_option linter.unusedVariables false

set_option maxRecDepth 100000 in
theorem lists_lifted (os : Os) (started : os.Started) (H : Type) (enc : TypeId × Value → H) :
    ReturnsInHanded {} Ybaz.checked os 5 .any (fun w args => (Rows.lawS3878CListsSpec.pre enc Ybaz.prog Ybaz.f5 [] false w args ∧ laidMetH Ybaz.prog laid6 w) ∧ sizedMet enc Ybaz.prog Ybaz.f5 (OpenSpec.ofChange Rows.lawS3878CListsSpec) false w args)
      (Rows.lawS3878CListsSpec.post enc Ybaz.prog Ybaz.f5 false true false false) := by
  refine returnsInHanded_of_change_and (C := Ybaz.checked) (X := fun w _ => laidMetH Ybaz.prog laid6 w) (fun _ _ _ hh h => h.of_heap hh) own started (by kernel_rfl) Ybaz.func5
    (ChangeSpec.witness_shaped (enc := enc) (C := Ybaz.checked) (os := os) (X := fun w _ => laidMetH Ybaz.prog laid6 w) false (lay (World.holding Ybaz.prog os ⟨#[], #[], []⟩)) #[.int .u8 0, .int .u8 0, .int .u8 0, .int .u8 0, .bool false, .bool false, .int .u32 0, .int .u32 0, .int .u32 0, .int .u32 0, .int .i32 0, .int .i32 0] 8 rfl (lay_shaped os _) (by kernel_rfl) (by kernel_rfl) (by kernel_rfl) (lay_met os _)) ?_
  intro W base args ds gs before hval0 hW _ _ hL _
  have hval : ∀ (j : Nat) t v, Ybaz.f5.params[j]? = some t → args[j]? = some v → Value.okWide Ybaz.prog W .any base t v := hval0
  have hW' := hW
  obtain ⟨p, q, hA0, hV, rfl, hfz, hnd⟩ := hW
  have hA : DataW.TrodAll enc Ybaz.prog W 0 (fun _ => true) true Ybaz.f5.params.toList args.toList ds p := hA0
  rw [Ybaz.params5] at hA hval
  obtain ⟨v0, vs0, d0, ds0, p0, q0, hargs, rfl, rfl, h0, r0⟩ := trodAll_cons hA
  obtain ⟨v1, vs1, d1, ds1, p1, q1, rfl, rfl, rfl, h1, r1⟩ := trodAll_cons r0
  obtain ⟨v2, vs2, d2, ds2, p2, q2, rfl, rfl, rfl, h2, r2⟩ := trodAll_cons r1
  obtain ⟨v3, vs3, d3, ds3, p3, q3, rfl, rfl, rfl, h3, r3⟩ := trodAll_cons r2
  obtain ⟨v4, vs4, d4, ds4, p4, q4, rfl, rfl, rfl, h4, r4⟩ := trodAll_cons r3
  obtain ⟨v5, vs5, d5, ds5, p5, q5, rfl, rfl, rfl, h5, r5⟩ := trodAll_cons r4
  obtain ⟨v6, vs6, d6, ds6, p6, q6, rfl, rfl, rfl, h6, r6⟩ := trodAll_cons r5
  obtain ⟨v7, vs7, d7, ds7, p7, q7, rfl, rfl, rfl, h7, r7⟩ := trodAll_cons r6
  obtain ⟨v8, vs8, d8, ds8, p8, q8, rfl, rfl, rfl, h8, r8⟩ := trodAll_cons r7
  obtain ⟨v9, vs9, d9, ds9, p9, q9, rfl, rfl, rfl, h9, r9⟩ := trodAll_cons r8
  obtain ⟨v10, vs10, d10, ds10, p10, q10, rfl, rfl, rfl, h10, r10⟩ := trodAll_cons r9
  obtain ⟨v11, vs11, d11, ds11, p11, q11, rfl, rfl, rfl, h11, r11⟩ := trodAll_cons r10
  obtain ⟨rfl, rfl, rfl⟩ := trodAll_nil r11
  obtain rfl : args = #[v0, v1, v2, v3, v4, v5, v6, v7, v8, v9, v10, v11] := by cases args; simp_all
  obtain ⟨rfl, rfl⟩ := trodVars_none hV
  obtain ⟨a0, rfl, rfl, rfl, w0⟩ := open_int Ybaz.underlying5 (hval 0 5 v0 rfl rfl) h0
  obtain ⟨a1, rfl, rfl, rfl, w1⟩ := open_int Ybaz.underlying5 (hval 1 5 v1 rfl rfl) h1
  obtain ⟨a2, rfl, rfl, rfl, w2⟩ := open_int Ybaz.underlying5 (hval 2 5 v2 rfl rfl) h2
  obtain ⟨a3, rfl, rfl, rfl, w3⟩ := open_int Ybaz.underlying5 (hval 3 5 v3 rfl rfl) h3
  obtain ⟨b4, rfl, rfl, rfl⟩ := open_bool Ybaz.underlying4 (hval 4 4 v4 rfl rfl) h4
  obtain ⟨b5, rfl, rfl, rfl⟩ := open_bool Ybaz.underlying4 (hval 5 4 v5 rfl rfl) h5
  obtain ⟨a6, rfl, rfl, rfl, w6⟩ := open_int Ybaz.underlying22 (hval 6 22 v6 rfl rfl) h6
  obtain ⟨a7, rfl, rfl, rfl, w7⟩ := open_int Ybaz.underlying22 (hval 7 22 v7 rfl rfl) h7
  obtain ⟨a8, rfl, rfl, rfl, w8⟩ := open_int Ybaz.underlying22 (hval 8 22 v8 rfl rfl) h8
  obtain ⟨a9, rfl, rfl, rfl, w9⟩ := open_int Ybaz.underlying22 (hval 9 22 v9 rfl rfl) h9
  obtain ⟨a10, rfl, rfl, rfl, w10⟩ := open_int Ybaz.underlying21 (hval 10 21 v10 rfl rfl) h10
  obtain ⟨a11, rfl, rfl, rfl, w11⟩ := open_int Ybaz.underlying21 (hval 11 21 v11 rfl rfl) h11
  obtain ⟨z4, hz⟩ := of_laid hL
  clear hA0 hval0
  have c0 := bounds_u8 w0
  have c1 := bounds_u8 w1
  have c2 := bounds_u8 w2
  have c3 := bounds_u8 w3
  have c6 := bounds_u32 w6
  have c7 := bounds_u32 w7
  have c8 := bounds_u32 w8
  have c9 := bounds_u32 w9
  have c10 := bounds_i32 w10
  have c11 := bounds_i32 w11
  refine (lawLists a0 a1 a2 a3 b4 b5 a6 a7 a8 a9 a10 a11 z4 W hz (by omega) (by omega) (by omega) (by omega) (by omega) (by omega) (by omega) (by omega) (by omega) (by omega) (by omega) (by omega) (by omega) (by omega) (by omega) (by omega) (by omega) (by omega) (by omega) (by omega)).mono fun e W' ⟨he, bel⟩ => ?_
  subst he
  exact ⟨_, rfl, _, _, _, [], _, [], hW', trodAll_mk1 (shut_bool Ybaz.underlying4 _), (trodAll_cons_mk (shut_int Ybaz.underlying5 w0) (trodAll_cons_mk (shut_int Ybaz.underlying5 w1) (trodAll_cons_mk (shut_int Ybaz.underlying5 w2) (trodAll_cons_mk (shut_int Ybaz.underlying5 w3) (trodAll_cons_mk (shut_bool Ybaz.underlying4 _) (trodAll_cons_mk (shut_bool Ybaz.underlying4 _) (trodAll_cons_mk (shut_int Ybaz.underlying22 w6) (trodAll_cons_mk (shut_int Ybaz.underlying22 w7) (trodAll_cons_mk (shut_int Ybaz.underlying22 w8) (trodAll_cons_mk (shut_int Ybaz.underlying22 w9) (trodAll_cons_mk (shut_int Ybaz.underlying21 w10) (trodAll_cons_mk (shut_int Ybaz.underlying21 w11) trodAll_mk0)))))))))))), rfl, Below.frame bel _, fun h => by cases h⟩

theorem lists_over : Rows.LawS3878CListsSaid :=
  OpenClaim.holds_of_wide 5 Ybaz.f5 rfl rfl rfl rfl rfl rfl rfl ⟨rfl, rfl, rfl, rfl, rfl⟩ rfl rfl rfl rfl rfl (by kernel_rfl) Ybaz.func5 (by kernel_rfl)
    (of_decide_eq_true (by kernel_rfl)) (by unfold Func.isWrapper; first | (rw [if_pos (by decide +kernel)]; kernel_rfl) | (rw [if_neg (by decide +kernel)]; exact ⟨rfl, rfl⟩))
    (fun os started H enc _ => lists_lifted os started H enc)

theorem lawS3878CListsCard.proved : Rows.LawS3878CListsCardSaid :=
  Claim7.holds_tied_plain_at .later [] [.data, .data, .data, .called, .called, .zero] true Rows.lawS3878CListsCard.stood.harness false
    lists_over (fun _ h => by cases h) (by kernel_rfl) (fun _ h => by cases h) lawS3878CLists_row_tie rfl ⟨rfl, rfl⟩ (by kernel_rfl) rfl
    (fun f fn hf hfn => by
      obtain rfl : f = 5 := Option.some.inj ((show Ybaz.prog.funcNamed Rows.lawS3878CListsRow.func = some 5 by kernel_rfl).symm.trans hf) |>.symm
      obtain rfl : fn = Ybaz.f5 := (Option.some.inj (Ybaz.func5.symm.trans hfn)).symm
      exact ⟨by kernel_rfl, fun j t ht => by
        rw [Ybaz.params5] at ht
        have hm : t ∈ [5, 5, 5, 5, 4, 4, 22, 22, 22, 22, 21, 21] := by simpa using Array.mem_of_getElem? ht
        have hall : ([5, 5, 5, 5, 4, 4, 22, 22, 22, 22, 21, 21].all fun u => !Ybaz.prog.wantsStandIn u) = true := by kernel_rfl
        exact (show Ybaz.prog.wantsStandIn t = false by simpa using List.all_eq_true.1 hall t hm)⟩)
    (by kernel_rfl)
end Go.Proofs.YbulkcbheGreatDoor
