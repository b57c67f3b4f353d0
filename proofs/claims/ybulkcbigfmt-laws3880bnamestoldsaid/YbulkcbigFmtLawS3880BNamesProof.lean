import Derived.Test.YbulkcbigFmtTold
namespace Go.Proofs.YbulkcbigFmt
open Go.ChangeShapes Go.WideShapes Go.ChangeAt Go.RowKit Go.Kit
open Go.Extern.Stop Go.Stop Go.Extern

set_option maxRecDepth 100000 in
theorem names_lifted (os : Os) (started : os.Started) (H : Type) (enc : TypeId × Value → H) :
    ReturnsInTold none {} Ybaf.checked os 3 .any Input.okWide ((OpenSpec.ofChange Rows.lawS3880BNamesSpec).preRow enc Ybaf.prog Ybaf.f3 [] false Rows.lawS3880BNamesRow.laid) (fun F => ((OpenSpec.ofChange Rows.lawS3880BNamesSpec).at F).post enc Ybaf.prog Ybaf.f3 false true false false) (aloneAtReturn Ybaf.prog) nothingAlways := by
  refine returnsInTold_of_row (C := Ybaf.checked) (s := OpenSpec.ofChange Rows.lawS3880BNamesSpec) (by kernel_rfl) Ybaf.own started (by kernel_rfl) Ybaf.func3
    (OpenSpec.witness_stopped_at (enc := enc) (C := Ybaf.checked) false (lay (World.holding Ybaf.prog os ⟨#[], #[], []⟩)) #[.int .u8 0] rfl (by kernel_rfl) (by kernel_rfl) (by kernel_rfl)
      (OpenSpec.preRow_of_B rfl 8 (by kernel_rfl) (by kernel_rfl) (laid_met os _))) ?_
  intro F W base args ds gs before _ hF hval0 hW _ _ _ hL _
  have hval : ∀ (j : Nat) t v, Ybaf.f3.params[j]? = some t → args[j]? = some v → Value.okWide Ybaf.prog W .any base t v := hval0
  have hW' := hW
  obtain ⟨p, q, hA0, hV0, rfl, hfz, hnd⟩ := hW
  have hA : DataW.TrodAll enc Ybaf.prog W 0 (fun _ => true) true Ybaf.f3.params.toList args.toList ds p := hA0
  have hV : DataW.TrodVars enc Ybaf.prog W (fun _ => true) [vn] gs q := hV0
  rw [Ybaf.params3] at hA hval
  obtain ⟨v0, d0, rfl, rfl, h0⟩ := trodAll_one hA
  have hvar := cells_of_laid hL
  obtain ⟨g, t, cs, fuel, d, p', rfl, hg, ht, hvar2, hd, rfl⟩ := trodVars_one hV
  obtain rfl := Option.some.inj (gN.symm.trans hg)
  obtain rfl := Option.some.inj (gNType.symm.trans ht)
  obtain rfl := Option.some.inj (hvar.symm.trans hvar2)
  obtain ⟨c, rfl, rfl, rfl, wc⟩ := open_int Ybaf.underlying5 (hval 0 5 v0 rfl rfl) h0
  clear hA0 hval0 hV0
  have hb8 := bounds_u8 wc
  refine (names_any c W (by omega) (by omega) (cells_at hvar)).mono fun e W' ⟨he, hbelow⟩ => ?_
  subst he
  refine ⟨_, rfl, _, _, _, [], [], _, hW', ?_, ?_, trodVars_mk1 gN gNType (var_below hbelow hvar) ((trod_indep fuel).trans hd), hbelow.frame _, fun h => by cases h⟩
  · exact trodAll_mk1 (shut_bool Ybaf.underlying4 true)
  · exact trodAll_mk1 (shut_int Ybaf.underlying5 wc)
theorem lawS3880BNamesTold.proved : Rows.LawS3880BNamesToldSaid :=
  Claim7.holds_of_told_tied_any_at .later 3 Ybaf.f3 "fmt.Sprintf" [] [] _ _ _ _ _ (by kernel_rfl) rfl rfl rfl Ybaf.laidOut (by kernel_rfl) rfl ⟨rfl, rfl, rfl, rfl, rfl, rfl, rfl⟩ rfl rfl (by kernel_rfl) (by kernel_rfl) Ybaf.func3 (by kernel_rfl)
    (of_decide_eq_true (by kernel_rfl)) (of_decide_eq_true (by kernel_rfl)) Ybaf.stops.symm rfl Ybaf.stopKnobs.symm (by kernel_rfl)
    (by kernel_rfl) (by kernel_rfl) (by kernel_rfl) (by kernel_rfl) (by kernel_rfl) (by kernel_rfl) (by kernel_rfl) (by kernel_rfl) (by kernel_rfl) rfl (by kernel_rfl) rfl rfl
    rfl rfl
    rfl (by kernel_rfl) (by kernel_rfl) (by kernel_rfl) (by decide) (by kernel_rfl) lawS3880BNames_row_tie
    (OpenClaim.moreEntering_of (by kernel_rfl) (by kernel_rfl) (by kernel_rfl) (by kernel_rfl) (by kernel_rfl) (by kernel_rfl) (by kernel_rfl) (by kernel_rfl) (by kernel_rfl) (by kernel_rfl))
    ⟨_, WideRow.started_initial, Ybaf.quiet _⟩
    (fun os started _ H enc _ => names_lifted os started H enc)
end Go.Proofs.YbulkcbigFmt
