import Derived.Test.YbulkcbhePartsC
import Derived.Deep.CutRange
import Derived.Deep.CutBlock
namespace Go.Proofs.Ybulkcbhe
open Go.RowKit Go.Sort
set_option linter.unusedVariables false
theorem infoF26 : (Yba.prog.info? 26).map (fun i => (i.zero, i.size, i.bytes)) = some (some (.slice none 0 0), 1, 24) := by kernel_rfl

theorem cell_one_at (W : World) (v : Value) (t : TypeId) (b : Nat) (hb : b = W.heap.size) : ∀ j u, [v][j]? = some u → (W.alloc (.cells #[v] t)).cell? ((⟨b, 0, none⟩ : Addr).add j) = some u := by
  subst hb; exact cell_one_new W v t
theorem own_zero {w : World} {base : Nat} {e : TypeId} {v : Value} (h : w.ownsRow base e 1 v 0 []) : ∃ ao cap, v = .slice ao 0 cap := by
  rcases h.2 with ⟨hv, _⟩ | ⟨g, cap, cur, hv, _⟩
  · exact ⟨none, 0, hv⟩
  · exact ⟨_, cap, hv⟩

theorem add_empty_end {w W1 w2 : World} {bl rc nq g' cap' : Nat} {ao : Option Addr} {p : Int}
    (H1 : W1.heap[bl]? = some (.cells #[.int .i64 0, .slice ao 0 rc, .int .i64 1] 33 (0, 0))) (H2 : W1.ownsRow (bl + 1) 26 1 (.slice ao 0 rc) 0 []) (H3 : Below bl w W1)
    (hown : w2.ownsRow (bl + 1) 26 1 (.slice (some ⟨g', 0, none⟩) 1 cap') 1 ([] ++ [.slice (some ⟨W1.heap.size, 0, none⟩) 1 1]))
    (hgr : (((W1.drewN nq).alloc (.cells #[.int .i16 p] 28)).alloc (.cells #[.slice (some ⟨W1.heap.size, 0, none⟩) 1 1] 26)).grownBy w2 (Value.ownBlock (.slice ao 0 rc))) :
    w2.heap[bl]? = some (.cells #[.int .i64 0, .slice ao 0 rc, .int .i64 1] 33 (0, 0)) ∧
    LInv (w2.setCell ⟨bl, 1, none⟩ (.slice (some ⟨g', 0, none⟩) 1 cap')) bl (.int .i64 1) [p] ∧ Below bl w (w2.setCell ⟨bl, 1, none⟩ (.slice (some ⟨g', 0, none⟩) 1 cap')) := by
  have hbl := lt_of_block H1
  have hnb : ∀ k, Value.ownBlock (.slice ao 0 rc) = some k → bl + 1 ≤ k ∧ k < W1.heap.size := fun k hk => H2.lt k hk
  have m1 : w2.heap[bl]? = _ := blk_grown (blk_alloc (blk_alloc (w := W1.drewN nq) H1 _) _) hgr (fun e => by have := hnb _ e.symm; omega)
  have k0 : ((W1.drewN nq).alloc (.cells #[.int .i16 p] 28)).heap[W1.heap.size]? = some (.cells #[.int .i16 p] 28 (0, 0)) := heap_alloc_new (W1.drewN nq) _
  have m2 : w2.heap[W1.heap.size]? = some (.cells #[.int .i16 p] 28 (0, 0)) := blk_grown (blk_alloc k0 _) hgr (fun e => by have := hnb _ e.symm; omega)
  rcases hown.2 with ⟨hv, _⟩ | ⟨g, cp, rcur, hv, hbg, hh, hnc, hcm, hcs, htk⟩
  · cases hv
  · simp only [Value.slice.injEq, Option.some.injEq, Addr.mk.injEq, and_true, true_and] at hv
    obtain ⟨rfl, rfl⟩ := hv
    have hne : g' ≠ W1.heap.size := by rintro rfl; rw [hh] at m2; simp at m2
    refine ⟨m1, .inr ⟨by simp, g', cap', rcur, W1.heap.size, 0, 1, #[.int .i16 p], ⟨blk_set m1 1 _, blk_set_other hh _ _ (by show g' ≠ bl; omega), ?_, by omega, hcm, by omega, blk_set_other m2 _ _ (by show W1.heap.size ≠ bl; omega), hbl, by simp, by simp, by unfold maxLen; omega, ?_⟩⟩, ?_⟩
    · have e : (rcur.toList.take (1 * 1))[0]? = ([] ++ [Value.slice (some ⟨W1.heap.size, 0, none⟩) 1 1])[0]? := by rw [htk]
      rw [List.getElem?_take_of_lt (by omega), Array.getElem?_toList] at e
      rw [e]; rfl
    · intro i hi
      obtain rfl : i = 0 := by simpa using hi
      rfl
    · have hd : Below bl w (W1.drewN nq) := ⟨H3.os, H3.tape, H3.output, H3.size, H3.block⟩
      have h1 := (hd.alloc (o := .cells #[.int .i16 p] 28) (by show bl ≤ W1.heap.size; omega)).alloc (o := .cells #[.slice (some ⟨W1.heap.size, 0, none⟩) 1 1] 26) (by simp; show bl ≤ W1.heap.size + 1; omega)
      exact (h1.grown hgr (by simp; show bl ≤ W1.heap.size + 1 + 1; omega) (fun k hk => by have := hnb k hk; omega)).setCell (p := ⟨bl, 1, none⟩) (Nat.le_refl bl) _

set_option maxHeartbeats 800000 in
set_option maxRecDepth 100000 in
theorem add_empty (p : Int) (bl : Nat) (w : World) (h : LEmpty w bl (.int .i64 0)) :
    Calls Yba.prog 6 #[.pointer (some ⟨bl, 0, none⟩), .int .i16 p] w fun e w' => e = .returned (.tuple #[]) ∧ LInv w' bl (.int .i64 1) [p] ∧ Below bl w w' := by
  obtain ⟨rv, hb, hown⟩ := h
  obtain ⟨ao, rc, rfl⟩ := own_zero hown
  have c1 := blk_cell hb 1
  have c2 := blk_cell hb 2
  have f2 := blk_free hb 2
  simp only [List.getElem?_toArray, List.getElem?_cons_succ, List.getElem?_cons_zero] at c1 c2
  have HB : Hid _ := hb
  have HO : Hid _ := hown
  clear hb hown
  go_enter Yba.func6, Yba.ntmps6
  go_upto_region 3 with fail
  obtain ⟨W1, hW1⟩ : ∃ W1, W1 = w.setCell ⟨bl, 2, none⟩ (Value.int IntKind.i64 1) := ⟨_, rfl⟩
  have H1 : Hid (W1.heap[bl]? = some (.cells #[.int .i64 0, .slice ao 0 rc, .int .i64 1] 33 (0, 0))) := by rw [hW1]; exact blk_set HB.out 2 _
  have H2 : Hid (W1.ownsRow (bl + 1) 26 1 (.slice ao 0 rc) 0 []) := by rw [hW1]; exact ownsRow_setCell_below HO.out (by show bl < bl + 1; omega) _
  have H3 : Hid (Below bl w W1) := by rw [hW1]; exact (Below.refl bl w).setCell (p := ⟨bl, 2, none⟩) (Nat.le_refl bl) _
  rw [← hW1]
  clear hW1 c1 c2 f2 HB HO
  have c1 := blk_cell H1.out 1
  have f1 := blk_free H1.out 1
  simp only [List.getElem?_toArray, List.getElem?_cons_succ, List.getElem?_cons_zero] at c1
  go_quiet (fail)
  have hbl : bl < W1.heap.size := lt_of_block H1.out
  obtain ⟨i0, hi, hz0, hz1, hz2⟩ := info_parts infoF26
  have hml : 0 + 1 ≤ maxLen := by unfold maxLen; omega
  have H2q : Hid ((W1.drewN nq).ownsRow (bl + 1) 26 1 (.slice ao 0 rc) 0 []) := H2.out
  have hbase : ∀ A B : Obj, bl + 1 ≤ (((W1.drewN nq).alloc A).alloc B).heap.size := fun A B => by simp; show bl ≤ W1.heap.size + 1; omega
  go_wp2_with (at_builtin; refine wpList_append_own _ rfl (.tmp 92) (.tmp 95) 31 rfl (bl + 1) 26 i0 (.slice none 0 0) 1 24 Yba.underlying31 hi hz0 hz1 hz2 rfl (by decide) _ _ _ rfl ((H2q.out.alloc _).alloc _) ⟨W1.heap.size + 1, 0, none⟩ 1 1 [.slice (some ⟨W1.heap.size, 0, none⟩) 1 1] rfl rfl (cell_one_at _ _ _ _ (by rw [World.size_alloc]; rfl)) (by intro u hu; simp at hu; subst hu; rfl) hml (by decide) (hbase _ _) ?_; intro v' w2 hown' hgr _; obtain ⟨g', cap', hv', hbg'⟩ := own_form hown'; subst hv'; have R := add_empty_end H1.out H2.out H3.out hown' hgr; have q1 := blk_cell R.1 1; have q2 := blk_free R.1 1; simp only [List.getElem?_toArray, List.getElem?_cons_succ, List.getElem?_cons_zero] at q1; have RR : Hid _ := R.2; clear hown' hgr R)
  refine bodyPost_ret (results_none (by rfl) _ _ _) rfl ?_
  exact ⟨rfl, RR.out⟩
end Go.Proofs.Ybulkcbhe
