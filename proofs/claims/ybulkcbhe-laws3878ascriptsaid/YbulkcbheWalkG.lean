import Derived.Test.YbulkcbhePartsC
import Derived.Deep.CutRange
import Derived.Deep.CutBlock
namespace Go.Proofs.Ybulkcbhe
open Go.RowKit Go.Sort
set_option linter.unusedVariables false
theorem step_copy_none {P : Program} {ops : Array Oper} {o : Oper} {a : Act} {w : World} {K : Act → World → Prop} {Q : Exit → Act → World → Prop} {E : Prop} (hgd : o.guard = none) (d s : Operand) (dT : TypeId)
    (ho : o.op = .call { callee := .builtin .copy, args := #[d, s], argTypes := #[dT, dT] }) (elem : TypeId) (hu : P.underlying dT = some (.slice elem)) (hsz : (P.info? elem).map (·.size) = some 1)
    (dp sp : Option Addr) (dLen dCap sLen sCap : Nat) (hd : a.eval d = .slice dp dLen dCap) (hs : a.eval s = .slice sp sLen sCap) (hn : Nat.min sLen dLen = 0)
    (h : K (a.put o.dst (goInt 0)) w) :
    if Region.wanted o (yielded ops a.tmps) = true then Oper.wp P o a w K Q else E := by
  have hw : Region.wanted o (yielded ops a.tmps) = true := by simp [Region.wanted, hgd]
  rw [if_pos hw]
  have hrun := run_copy_none (P := P) w dT dT o.type elem dp sp dLen dCap sLen sCap hu hsz hn
  unfold Oper.wp
  simp [execOp, ho, resolve, invoke, builtin, hd, hs, hrun, Result.andThen]
  exact h
theorem sizeG26 : (Yba.prog.info? 26).map (·.size) = some 1 := by kernel_rfl

set_option maxHeartbeats 800000 in
set_option maxRecDepth 100000 in
theorem drop_any (bl br rc bc off cp : Nat) (rcur cur : Array Value) (nv : Value) (xs : List Int) (w : World) (h : LFull w bl br rc rcur bc off cp cur nv xs) :
    Calls Yba.prog 11 #[.pointer (some ⟨bl, 0, none⟩), .int .i64 0] w fun e w' => e = .returned (.tuple #[]) ∧ LEmpty w' bl nv ∧ Below bl w w' := by
  have H : Hid _ := h
  have hrc : 1 ≤ rc := by
    have h1 := h.rs
    have h2 := h.r0
    rcases Nat.eq_zero_or_pos rcur.size with h3 | h3
    · rw [Array.getElem?_eq_none (by omega)] at h2; cases h2
    · omega
  have hbr := h.hbr
  have c1 := blk_cell h.lb 1
  have f1 := blk_free h.lb 1
  have d0 := blk_cell h.rb 0
  have g0 := blk_free h.rb 0
  rw [h.r0] at d0
  simp only [List.getElem?_toArray, List.getElem?_cons_succ, List.getElem?_cons_zero] at c1
  clear h
  have n1 : ¬ br = bl := by omega
  have n2 : ¬ bl = br := by omega
  have hr0 : ¬ rc = 0 := by omega
  go_enter Yba.func11, Yba.ntmps11
  go_wp2
  have hw1 : IntKind.i64.wrap 1 = 1 := by decide
  have hw0 : IntKind.i64.wrap 0 = 0 := by decide
  go_cut [] from 4 (fun wx => wx = w.drew)
  case first =>
    go_region_law (refine step_copy_none rfl (.tmp 9) (.tmp 16) 31 rfl 26 Yba.underlying31 sizeG26 (some ⟨br, 0, none⟩) (if rc = 1 then some (⟨br, 0, none⟩ : Addr) else some ⟨br, 1, none⟩) 1 rc 0 (rc - 1) (by simp [Act.eval, Act.put]) (by simp [Act.eval, Act.put]) rfl ?_)
    all_goals (generalize (if rc = 1 then some (⟨br, 0, none⟩ : Addr) else some ⟨br, 1, none⟩) = dpv; go_wp2_with fail; go_meet; case rel => exact rfl)
  case rest =>
    subst hcut
    go_wp2_with fail
    go_cut [] from 4 (fun wx => wx = (w.setCell ⟨br, 0, none⟩ (.slice none 0 0)).drew.drew)
    case first =>
      go_region
      all_goals (go_wp2_with fail; go_meet; case rel => exact rfl)
    case rest =>
      subst hcut
      have k1 := blk_set_other H.out.lb ⟨br, 0, none⟩ (.slice none 0 0) (by show bl ≠ br; omega)
      have k2 := blk_set H.out.rb 0 (.slice none 0 0)
      obtain ⟨W, hW⟩ : ∃ W, W = w.setCell ⟨br, 0, none⟩ (.slice none 0 0) := ⟨_, rfl⟩
      have HB : Hid (Below bl w W) := by rw [hW]; exact (Below.refl bl w).setCell (p := ⟨br, 0, none⟩) (by show bl ≤ br; omega) _
      rw [← hW] at k1 k2 ⊢
      have K1 : Hid _ := k1
      have K2 : Hid _ := k2
      clear hW c1 f1 d0 g0
      have c1 := blk_cell k1 1
      have f1 := blk_free k1 1
      simp only [List.getElem?_toArray, List.getElem?_cons_succ, List.getElem?_cons_zero] at c1
      clear k1 k2
      go_wp2_with fail
      go_region
      all_goals (go_wp2_with fail; go_end0)
      all_goals (refine ⟨rfl, ⟨.slice (some ⟨br, 0, none⟩) 0 rc, blk_set K1.out 1 _, ?_⟩, ?_⟩)
      all_goals first
        | exact (HB.out.setCell (p := ⟨bl, 1, none⟩) (Nat.le_refl bl) _).drew.drew.drew
        | exact ⟨by simp, .inr ⟨br, rc, _, rfl, by omega, blk_set_other K2.out ⟨bl, 1, none⟩ _ (by show br ≠ bl; omega), Nat.zero_le _, H.out.rm, by simpa using H.out.rs, by simp⟩⟩
end Go.Proofs.Ybulkcbhe
