import Derived.Test.YbulkcbheGreatDoorLaid
import Derived.Test.YbulkcbheGreatDoorScore
import Derived.Deep.SlicePairs
namespace Go.Proofs.YbulkcbheGreatDoor
open Go.ChangeShapes Go.WideShapes Go.ChangeAt Go.RowKit
set_option linter.unusedVariables false

set_option maxRecDepth 100000 in
set_option maxHeartbeats 800000 in
theorem lawScore_big (a b c d : Int) (other : Bool) (obs nw at' fa fw : Int) (sa : Option Addr) (len cap : Nat) (w : World) (hlen : 300 < len) :
    Calls Ybaz.prog 3 #[.int .u8 a, .int .u8 b, .int .u8 c, .int .u8 d, .bool other, .int .u32 obs, .int .i32 nw, .int .i32 at', .int .i32 fa, .int .i16 fw, .slice sa len cap] w fun e w' => e = .returned (.bool true) ∧ Nw w w' := by
  go_enter Ybaz.func3, Ybaz.ntmps3
  go_wp2_with fail
  go_ret
  exact ⟨rfl, Nw.refl _⟩
theorem cells43 : Ybaz.prog.cellsOf 43 = 2 := by kernel_rfl
theorem cells41 : Ybaz.prog.cellsOf 41 = 1 := by kernel_rfl
theorem cells23 : Ybaz.prog.cellsOf 23 = 1 := by kernel_rfl
def numOf : Value → Int
  | .int _ n => n
  | _ => 0
theorem in2_of_trod {H : Type} {enc : TypeId × Value → H} {W : World} {sp : Nat → Bool} {held : Bool} {fuel : Nat} {sa : Option Addr} {len cap : Nat} {x : DataW H × List MemPlace}
    (h : DataW.trod enc Ybaz.prog W 0 sp held fuel 24 [.slice sa len cap] = some x) : ∃ G Wt, In2 W sa len G Wt := by
  rcases Go.Deep.open_slice_pairs Ybaz.underlying24 Ybaz.underlying43 cells43 rfl rfl cells41 cells23 h with ⟨hc, _⟩ | ⟨a, len', cap', m, n, V0, V1, D0, D1, P0, P1, hc, _, hl, _, hm, _, hcell⟩
  · simp only [List.cons.injEq, Value.slice.injEq, and_true] at hc
    obtain ⟨rfl, rfl, rfl⟩ := hc
    exact ⟨fun _ => 0, fun _ => 0, .inl ⟨rfl, rfl⟩⟩
  · simp only [List.cons.injEq, Value.slice.injEq, and_true] at hc
    obtain ⟨rfl, rfl, rfl⟩ := hc
    refine ⟨fun i => numOf (V0 i), fun i => numOf (V1 i), .inr ⟨a, rfl, fun i hi => ?_⟩⟩
    have him : i < m := by rw [hm]; split <;> omega
    obtain ⟨c0, c1, t0, t1⟩ := hcell i him
    obtain ⟨k0, e0, _, f0⟩ := DataW.trod_int Ybaz.underlying41 t0
    obtain ⟨k1, e1, _, f1⟩ := DataW.trod_int Ybaz.underlying23 t1
    simp only [List.cons.injEq, and_true] at e0 e1
    have b0 := bounds_u16 f0
    have b1 := bounds_i16 f1
    rw [e0] at c0
    rw [e1] at c1
    have e : (a.add (i * 2)).add 1 = a.add (i * 2 + 1) := by
      unfold Addr.add
      by_cases hz : i * 2 = 0
      · simp [hz]
      · simp [hz, Nat.add_assoc]
    have n0 : numOf (V0 i) = k0 := by rw [e0]; rfl
    have n1 : numOf (V1 i) = k1 := by rw [e1]; rfl
    show W.cell? (a.add (i * 2)) = some (.int .u16 (numOf (V0 i))) ∧ W.cell? ((a.add (i * 2)).add 1) = some (.int .i16 (numOf (V1 i))) ∧ 0 ≤ numOf (V0 i) ∧ numOf (V0 i) ≤ 65535 ∧ -32768 ≤ numOf (V1 i) ∧ numOf (V1 i) ≤ 32767
    rw [n0, n1, e]
    exact ⟨c0, c1, b0.1, b0.2, b1.1, b1.2⟩

set_option maxRecDepth 100000 in
theorem score_lifted (os : Os) (started : os.Started) (H : Type) (enc : TypeId × Value → H) :
    ReturnsInHanded {} Ybaz.checked os 3 .any (fun w args => (Rows.lawS3878CScoreSpec.pre enc Ybaz.prog Ybaz.f3 [] false w args ∧ laidMetH Ybaz.prog laid6 w) ∧ sizedMet enc Ybaz.prog Ybaz.f3 (OpenSpec.ofChange Rows.lawS3878CScoreSpec) false w args)
      (Rows.lawS3878CScoreSpec.post enc Ybaz.prog Ybaz.f3 false true false false) := by
  refine returnsInHanded_of_change_and (C := Ybaz.checked) (X := fun w _ => laidMetH Ybaz.prog laid6 w) (fun _ _ _ hh h => h.of_heap hh) own started (by kernel_rfl) Ybaz.func3
    (ChangeSpec.witness_shaped (enc := enc) (C := Ybaz.checked) (os := os) (X := fun w _ => laidMetH Ybaz.prog laid6 w) false (lay (World.holding Ybaz.prog os ⟨#[], #[], []⟩)) #[.int .u8 0, .int .u8 0, .int .u8 0, .int .u8 0, .bool false, .int .u32 0, .int .i32 0, .int .i32 0, .int .i32 0, .int .i16 0, .slice none 0 0] 8 rfl (lay_shaped os _) (by kernel_rfl) (by kernel_rfl) (by kernel_rfl) (lay_met os _)) ?_
  intro W base args ds gs before hval0 hW _ _ hL _
  have hval : ∀ (j : Nat) t v, Ybaz.f3.params[j]? = some t → args[j]? = some v → Value.okWide Ybaz.prog W .any base t v := hval0
  have hW' := hW
  obtain ⟨p, q, hA0, hV, rfl, hfz, hnd⟩ := hW
  have hA : DataW.TrodAll enc Ybaz.prog W 0 (fun _ => true) true Ybaz.f3.params.toList args.toList ds p := hA0
  rw [Ybaz.params3] at hA hval
  obtain ⟨v0, vs0, d0, ds0, p0, q0, hargs, rfl, rfl, h0, r0⟩ := trodAll_cons hA
  obtain ⟨v1, vs1, d1, ds1, p1, q1, rfl, rfl, rfl, h1, r1⟩ := trodAll_cons r0
  obtain ⟨v2, vs2, d2, ds2, p2, q2, rfl, rfl, rfl, h2, r2⟩ := trodAll_cons r1
  obtain ⟨v3, vs3, d3, ds3, p3, q3, rfl, rfl, rfl, h3, r3⟩ := trodAll_cons r2
  obtain ⟨v4, vs4, d4, ds4, p4, q4, rfl, rfl, rfl, h4, r4⟩ := trodAll_cons r3
  obtain ⟨v5, vs5, d5, ds5, p5, q5, rfl, rfl, rfl, h5, r5⟩ := trodAll_cons r4
  obtain ⟨v6, vs6, d6, ds6, p6, q6, rfl, rfl, rfl, h6, r6⟩ := trodAll_cons r5
  obtain ⟨v7, vs7, d7, ds7, p7, q7, rfl, rfl, rfl, h7, r7⟩ := trodAll_cons r6
  obtain ⟨v8, vs8, d8, ds8, p8, q8, rfl, rfl, rfl, h8, r8⟩ := trodAll_cons r7
  obtain ⟨v9, vs9, d9, ds9, p9, q9, rfl, rfl, rfl, h9, r9⟩ := trodAll_cons r8
  obtain ⟨v10, vs10, d10, ds10, p10, q10, rfl, rfl, rfl, h10, r10⟩ := trodAll_cons r9
  obtain ⟨rfl, rfl, rfl⟩ := trodAll_nil r10
  obtain rfl : args = #[v0, v1, v2, v3, v4, v5, v6, v7, v8, v9, v10] := by cases args; simp_all
  obtain ⟨rfl, rfl⟩ := trodVars_none hV
  obtain ⟨a0, rfl, rfl, rfl, w0⟩ := open_int Ybaz.underlying5 (hval 0 5 v0 rfl rfl) h0
  obtain ⟨a1, rfl, rfl, rfl, w1⟩ := open_int Ybaz.underlying5 (hval 1 5 v1 rfl rfl) h1
  obtain ⟨a2, rfl, rfl, rfl, w2⟩ := open_int Ybaz.underlying5 (hval 2 5 v2 rfl rfl) h2
  obtain ⟨a3, rfl, rfl, rfl, w3⟩ := open_int Ybaz.underlying5 (hval 3 5 v3 rfl rfl) h3
  obtain ⟨b4, rfl, rfl, rfl⟩ := open_bool Ybaz.underlying4 (hval 4 4 v4 rfl rfl) h4
  obtain ⟨a5, rfl, rfl, rfl, w5⟩ := open_int Ybaz.underlying22 (hval 5 22 v5 rfl rfl) h5
  obtain ⟨a6, rfl, rfl, rfl, w6⟩ := open_int Ybaz.underlying21 (hval 6 21 v6 rfl rfl) h6
  obtain ⟨a7, rfl, rfl, rfl, w7⟩ := open_int Ybaz.underlying21 (hval 7 21 v7 rfl rfl) h7
  obtain ⟨a8, rfl, rfl, rfl, w8⟩ := open_int Ybaz.underlying21 (hval 8 21 v8 rfl rfl) h8
  obtain ⟨a9, rfl, rfl, rfl, w9⟩ := open_int Ybaz.underlying23 (hval 9 23 v9 rfl rfl) h9
  obtain ⟨sa, len, cap, rfl⟩ := okWide_slice Ybaz.underlying24 (hval 10 24 v10 rfl rfl)
  have k10 := h10
  have lt10 : ∀ x ∈ p10, x.block < W.heap.size := by obtain ⟨m, hm⟩ := k10; exact DataW.trod_lt m _ _ _ hm
  obtain ⟨G, Wt, hin⟩ : ∃ G Wt, In2 W sa len G Wt := by
    obtain ⟨fuel, hf⟩ := h10
    exact in2_of_trod hf
  obtain ⟨z4, hz⟩ := of_laid hL
  clear hA0 hval0
  have c0 := bounds_u8 w0
  have c1 := bounds_u8 w1
  have c2 := bounds_u8 w2
  have c3 := bounds_u8 w3
  have c5 := bounds_u32 w5
  have c6 := bounds_i32 w6
  have c7 := bounds_i32 w7
  have c8 := bounds_i32 w8
  have c9 := bounds_i16 w9
  have hcall : Calls Ybaz.prog 3 #[.int .u8 a0, .int .u8 a1, .int .u8 a2, .int .u8 a3, .bool b4, .int .u32 a5, .int .i32 a6, .int .i32 a7, .int .i32 a8, .int .i16 a9, .slice sa len cap] W fun e w' => e = .returned (.bool true) ∧ Nw W w' := by
    by_cases hl : len ≤ 300
    · exact lawScore_small a0 a1 a2 a3 b4 a5 a6 a7 a8 a9 sa len cap G Wt z4 W hz hin hl (by omega) (by omega) (by omega) (by omega) (by omega) (by omega) (by omega) (by omega) (by omega) (by omega) (by omega) (by omega) (by omega) (by omega) (by omega) (by omega) (by omega) (by omega)
    · exact lawScore_big a0 a1 a2 a3 b4 a5 a6 a7 a8 a9 sa len cap W (by omega)
  refine hcall.mono fun e W' ⟨he, bel⟩ => ?_
  subst he
  exact ⟨_, rfl, _, _, _, [], _, [], hW', trodAll_mk1 (shut_bool Ybaz.underlying4 _), (trodAll_cons_mk (shut_int Ybaz.underlying5 w0) (trodAll_cons_mk (shut_int Ybaz.underlying5 w1) (trodAll_cons_mk (shut_int Ybaz.underlying5 w2) (trodAll_cons_mk (shut_int Ybaz.underlying5 w3) (trodAll_cons_mk (shut_bool Ybaz.underlying4 _) (trodAll_cons_mk (shut_int Ybaz.underlying22 w5) (trodAll_cons_mk (shut_int Ybaz.underlying21 w6) (trodAll_cons_mk (shut_int Ybaz.underlying21 w7) (trodAll_cons_mk (shut_int Ybaz.underlying21 w8) (trodAll_cons_mk (shut_int Ybaz.underlying23 w9) (trodAll_cons_mk (Below.trod laidOut (by kernel_rfl) (of_decide_eq_true (by kernel_rfl)) k10 bel lt10) trodAll_mk0))))))))))), rfl, Below.frame bel _, fun h => by cases h⟩

theorem score_over : Rows.LawS3878CScoreSaid :=
  OpenClaim.holds_of_wide 3 Ybaz.f3 rfl rfl rfl rfl rfl rfl rfl ⟨rfl, rfl, rfl, rfl, rfl⟩ rfl rfl rfl rfl rfl (by kernel_rfl) Ybaz.func3 (by kernel_rfl)
    (of_decide_eq_true (by kernel_rfl)) (by unfold Func.isWrapper; first | (rw [if_pos (by decide +kernel)]; kernel_rfl) | (rw [if_neg (by decide +kernel)]; exact ⟨rfl, rfl⟩))
    (fun os started H enc _ => score_lifted os started H enc)

theorem lawS3878CScoreCard.proved : Rows.LawS3878CScoreCardSaid :=
  Claim7.holds_tied_plain_at .later [] [.data, .data, .data, .called, .called, .zero] true Rows.lawS3878CScoreCard.stood.harness false
    score_over (fun _ h => by cases h) (by kernel_rfl) (fun _ h => by cases h) lawS3878CScore_row_tie rfl ⟨rfl, rfl⟩ (by kernel_rfl) rfl
    (fun f fn hf hfn => by
      obtain rfl : f = 3 := Option.some.inj ((show Ybaz.prog.funcNamed Rows.lawS3878CScoreRow.func = some 3 by kernel_rfl).symm.trans hf) |>.symm
      obtain rfl : fn = Ybaz.f3 := (Option.some.inj (Ybaz.func3.symm.trans hfn)).symm
      exact ⟨by kernel_rfl, fun j t ht => by
        rw [Ybaz.params3] at ht
        have hm : t ∈ [5, 5, 5, 5, 4, 22, 21, 21, 21, 23, 24] := by simpa using Array.mem_of_getElem? ht
        have hall : ([5, 5, 5, 5, 4, 22, 21, 21, 21, 23, 24].all fun u => !Ybaz.prog.wantsStandIn u) = true := by kernel_rfl
        exact (show Ybaz.prog.wantsStandIn t = false by simpa using List.all_eq_true.1 hall t hm)⟩)
    (by kernel_rfl)
end Go.Proofs.YbulkcbheGreatDoor
