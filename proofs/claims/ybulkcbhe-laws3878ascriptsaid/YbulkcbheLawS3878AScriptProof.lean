/-
  The row of portcullis.LawS3878AScript, after the frame of the kit's proof-skeleton tool; the walk lies in YbulkcbheWalkS.
-/
import Derived.Test.YbulkcbheRows
import Derived.Test.YbulkcbheWalkS
import Derived.WalkKit
import Derived.ProofKit
import Derived.OpenShut
import Derived.ShutString
import Derived.ChangeOld
import Derived.Below
import Derived.Deep.SlicePairs
namespace Go.Proofs.Ybulkcbhe.lawS3878AScript
open Go.ChangeShapes Go.WideShapes Go.ChangeAt Go.RowKit
set_option linter.unusedVariables false

theorem own : ownKnob Yba.prog.godebug = none := by kernel_rfl
theorem laidOut : laidOutB Yba.prog = true := by kernel_rfl
theorem cells38 : Yba.prog.cellsOf 38 = 2 := by kernel_rfl
theorem cells5 : Yba.prog.cellsOf 5 = 1 := by kernel_rfl
theorem cells25 : Yba.prog.cellsOf 25 = 1 := by kernel_rfl

set_option maxRecDepth 100000 in
theorem lifted (os : Os) (started : os.Started) (H : Type) (enc : TypeId × Value → H) :
    ReturnsInHanded {} Yba.checked os 4 .any (Rows.lawS3878AScriptSpec.pre6 enc Yba.prog Yba.f4 Rows.lawS3878AScriptRow.domain false) (Rows.lawS3878AScriptSpec.post enc Yba.prog Yba.f4 false true false false) := by
  refine returnsInHanded_of_change (C := Yba.checked) own started (by kernel_rfl) Yba.func4
    (ChangeSpec.witness6 (enc := enc) (C := Yba.checked) false ⟨#[], #[.slice none 0 0], []⟩ 8 (by kernel_rfl) (by kernel_rfl) (by kernel_rfl) (by kernel_rfl)) ?_
  intro W base args ds gs before hval0 hW hcnd _
  have hval : ∀ (j : Nat) t v, Yba.f4.params[j]? = some t → args[j]? = some v → Value.okWide Yba.prog W .any base t v := hval0
  have hW' := hW
  obtain ⟨p, q, hA0, hV, rfl, hfz, hnd⟩ := hW
  have hA : DataW.TrodAll enc Yba.prog W 0 (fun _ => true) true Yba.f4.params.toList args.toList ds p := hA0
  rw [Yba.params4] at hA hval
  obtain ⟨v0, vs0, d0, ds0, p0, q0, hargs, rfl, rfl, h0, r0⟩ := trodAll_cons hA
  obtain ⟨rfl, rfl, rfl⟩ := trodAll_nil r0
  obtain rfl : args = #[v0] := by cases args; simp_all
  obtain ⟨rfl, rfl⟩ := trodVars_none hV
  obtain ⟨a0, len0, cap0, rfl⟩ := okWide_slice Yba.underlying36 (hval 0 36 v0 rfl rfl)
  have k0 := h0
  have lt0 : ∀ x ∈ p0, x.block < W.heap.size := by obtain ⟨m, hm⟩ := k0; exact DataW.trod_lt m _ _ _ hm
  obtain ⟨O, V, w0⟩ : ∃ O V, IsOps W a0 len0 O V := by
    obtain ⟨fuel, hf⟩ := h0
    rcases Go.Deep.open_slice_pairs Yba.underlying36 Yba.underlying38 cells38 rfl rfl cells5 cells25 hf with ⟨hcs, _⟩ | ⟨a, len, cap, m, n, V0, V1, D0, D1, P0, P1, hcs, hb, hl, hm, hmm, hx, hcell⟩
    · simp [Value.cells] at hcs
      obtain ⟨rfl, rfl, rfl⟩ := hcs
      exact ⟨fun _ => 0, fun _ => 0, fun k hk => by omega⟩
    · simp [Value.cells] at hcs
      obtain ⟨rfl, rfl, rfl⟩ := hcs
      simp only [if_true] at hmm
      have each : ∀ k, k < len0 → ∃ q : Int × Int, W.cell? (a.add (k * 2)) = some (.int .u8 q.1) ∧ W.cell? (a.add (k * 2 + 1)) = some (.int .i8 q.2) ∧ 0 ≤ q.1 ∧ q.1 ≤ 255 ∧ -128 ≤ q.2 ∧ q.2 ≤ 127 := by
        intro k hk
        obtain ⟨c0, c1, t0, t1⟩ := hcell k (by omega)
        obtain ⟨x, e0, _, wx⟩ := DataW.trod_int Yba.underlying5 t0
        obtain ⟨y, e1, _, wy⟩ := DataW.trod_int Yba.underlying25 t1
        simp at e0 e1
        have bx := bounds_u8 wx
        have by_ := bounds_i8 wy
        exact ⟨(x, y), by rw [c0, e0], by rw [c1, e1], bx.1, bx.2, by_.1, by_.2⟩
      obtain ⟨F, hF⟩ := Go.Deep.choose_lt each
      refine ⟨fun k => (F k).1, fun k => (F k).2, fun k hk => ?_⟩
      obtain ⟨c0, c1, h1, h2, h3, h4⟩ := hF k hk
      obtain ⟨b, o, sp⟩ := a
      have hsp : sp = none := by
        obtain ⟨c00, _⟩ := hF 0 (by omega)
        simpa [Addr.add] using World.cell?_spot c00
      subst hsp
      rw [Addr.add_lit] at c0 c1
      exact ⟨b, o, rfl, World.block_lt_of_cell? _ _ c0, c0, by rw [Nat.add_assoc]; exact c1, h1, h2, h3, h4⟩
  clear hA0 hval0
  refine (script_walk a0 len0 cap0 O V W w0).mono fun e W' ⟨he, bel⟩ => ?_
  subst he
  exact ⟨_, rfl, _, _, _, [], _, [], hW', trodAll_mk1 (shut_bool Yba.underlying4 _), (trodAll_cons_mk (Below.trod laidOut (by kernel_rfl) (of_decide_eq_true (by kernel_rfl)) k0 bel lt0) trodAll_mk0), rfl, bel.frame _, fun h => by cases h⟩

theorem over : Rows.lawS3878AScriptRow.holds Yba.pinned (OpenSpec.ofChange Rows.lawS3878AScriptSpec) :=
  OpenClaim.holds_of_wide 4 Yba.f4 rfl rfl rfl rfl rfl rfl rfl ⟨rfl, rfl, rfl, rfl, rfl⟩ rfl rfl rfl rfl rfl (by kernel_rfl) Yba.func4 (by kernel_rfl)
    (of_decide_eq_true (by kernel_rfl)) (by unfold Func.isWrapper; first | (rw [if_pos (by decide +kernel)]; kernel_rfl) | (rw [if_neg (by decide +kernel)]; exact ⟨rfl, rfl⟩))
    (fun os started H enc _ => lifted os started H enc)

theorem proved : Rows.LawS3878AScriptSaid := over
end Go.Proofs.Ybulkcbhe.lawS3878AScript
