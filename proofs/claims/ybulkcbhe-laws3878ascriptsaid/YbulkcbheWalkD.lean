import Derived.Test.YbulkcbheWalkC
namespace Go.Proofs.Ybulkcbhe
open Go.RowKit Go.Sort
set_option linter.unusedVariables false

theorem call15 : ∀ args w, (callFunc 15 args).run Yba.prog w = .ok (.enter 15 args) w := fun _ _ => by kernel_rfl
theorem call16 : ∀ args w, (callFunc 16 args).run Yba.prog w = .ok (.enter 16 args) w := fun _ _ => by kernel_rfl

/-- sort.Search over the runs, at the closure find-1. -/
theorem search_runs (p : Int) (bp bb bl br ro bf bl2 : Nat) (ao : Option Addr) (cap R : Nat) (X : Nat → RunD) (w : World) (h : RunsAt w bl br ro ao cap R X) (ha : Asc R X)
    (hp : w.cell? ⟨bp, 0, none⟩ = some (.int .i16 p)) (hb : w.cell? ⟨bb, 0, none⟩ = some (.pointer (some ⟨bl, 0, none⟩)))
    (hf : w.cell? ⟨bf, 0, none⟩ = some (.func (.func 13) #[] #[.pointer (some ⟨bp, 0, none⟩), .pointer (some ⟨bb, 0, none⟩)])) (hl : w.cell? ⟨bl2, 0, none⟩ = some (.pointer (some ⟨bl, 0, none⟩))) :
    Calls Yba.prog 14 #[.int .i64 R, .func (.func 15) #[] #[.pointer (some ⟨bf, 0, none⟩), .pointer (some ⟨bl2, 0, none⟩)]] w fun e w' => ∃ k : Nat, e = .returned (.int .i64 k) ∧ k ≤ R ∧ (∀ t, t < k → (X t).x ((X t).len - 1) < p) ∧ (∀ t, k ≤ t → t < R → p ≤ (X t).x ((X t).len - 1)) ∧ ∃ q, w' = w.drewN q := by
  have hfew := h.few
  refine (search_any 15 _ _ R (fun r => !decide ((X r).x ((X r).len - 1) < p)) w call15 (by omega) ?_ ?_).mono ?_
  · intro m i hi
    have hao := h.addr (by omega)
    have hr := h.runs
    rw [hao] at hr
    have hlen := h.short i hi
    have hpos := h.pos i hi
    obtain ⟨l, hl1⟩ : ∃ l, (X i).len = l + 1 := ⟨(X i).len - 1, by omega⟩
    have hx := h.run i hi
    have hn := h.num i hi l (by omega)
    rw [hl1] at hx
    have e : (X i).len - 1 = l := by omega
    rw [e]
    exact lastIn_any p 0 ((X i).x l) bp bb bl bf bl2 br ro R cap (X i).xb (X i).xo l (X i).cp i (w.drewN m) hp hb h.ord hf hl hr hi hx hn (by omega) (by omega)
  · intro a b hab hb h1
    have := ha.last a b hab hb
    simp only [Bool.not_eq_true', decide_eq_false_iff_not] at h1 ⊢
    omega
  · rintro e w' ⟨k, rfl, hk, h1, h2, q, rfl⟩
    refine ⟨k, rfl, hk, fun t ht => ?_, fun t h3 h4 => ?_, q, rfl⟩
    · have := h1 t ht; simpa using this
    · have := h2 t h3 h4; simpa using this

/-- sort.Search inside a run, at the closure find-2. -/
theorem search_in (p : Int) (bp bb bl br ro bf bc : Nat) (ao : Option Addr) (cap R : Nat) (X : Nat → RunD) (r : Nat) (w : World) (h : RunsAt w bl br ro ao cap R X) (ha : Asc R X) (hr : r < R)
    (hp : w.cell? ⟨bp, 0, none⟩ = some (.int .i16 p)) (hb : w.cell? ⟨bb, 0, none⟩ = some (.pointer (some ⟨bl, 0, none⟩)))
    (hf : w.cell? ⟨bf, 0, none⟩ = some (.func (.func 13) #[] #[.pointer (some ⟨bp, 0, none⟩), .pointer (some ⟨bb, 0, none⟩)]))
    (hc : w.cell? ⟨bc, 0, none⟩ = some (.slice (some ⟨(X r).xb, (X r).xo, none⟩) (X r).len (X r).cp)) :
    Calls Yba.prog 14 #[.int .i64 (X r).len, .func (.func 16) #[] #[.pointer (some ⟨bf, 0, none⟩), .pointer (some ⟨bc, 0, none⟩)]] w fun e w' => ∃ k : Nat, e = .returned (.int .i64 k) ∧ k ≤ (X r).len ∧ (∀ t, t < k → (X r).x t < p) ∧ (∀ t, k ≤ t → t < (X r).len → p ≤ (X r).x t) ∧ ∃ q, w' = w.drewN q := by
  have hfew := h.short r hr
  refine (search_any 16 _ _ (X r).len (fun i => !decide ((X r).x i < p)) w call16 (by omega) ?_ ?_).mono ?_
  · intro m i hi
    exact atIn_any p 0 ((X r).x i) bp bb bl bf bc (X r).xb (X r).xo (X r).len (X r).cp i (w.drewN m) hp hb h.ord hf hc hi (h.num r hr i hi) (by omega)
  · intro a b hab hb h1
    have := ha.inn r hr a b hab hb
    simp only [Bool.not_eq_true', decide_eq_false_iff_not] at h1 ⊢
    omega
  · rintro e w' ⟨k, rfl, hk, h1, h2, q, rfl⟩
    refine ⟨k, rfl, hk, fun t ht => ?_, fun t h3 h4 => ?_, q, rfl⟩
    · have := h1 t ht; simpa using this
    · have := h2 t h3 h4; simpa using this


theorem cell_new_at (W : World) (v : Value) (t : TypeId) (b : Nat) (hb : b = W.heap.size) : (W.alloc (.cells #[v] t)).cell? ⟨b, 0, none⟩ = some v := by
  subst hb; exact cell_new W v t

set_option maxHeartbeats 800000 in
theorem find_any (p : Int) (bp bb bl br ro : Nat) (ao : Option Addr) (cap R : Nat) (X : Nat → RunD) (w : World) (h : RunsAt w bl br ro ao cap R X) (ha : Asc R X)
    (hp : w.cell? ⟨bp, 0, none⟩ = some (.int .i16 p)) (hb : w.cell? ⟨bb, 0, none⟩ = some (.pointer (some ⟨bl, 0, none⟩))) :
    Calls Yba.prog 12 #[.pointer (some ⟨bl, 0, none⟩), .func (.func 13) #[] #[.pointer (some ⟨bp, 0, none⟩), .pointer (some ⟨bb, 0, none⟩)]] w fun e w' =>
      ∃ run i : Nat, e = .returned (.tuple #[.int .i64 run, .int .i64 i]) ∧ FoundAt R X p run i ∧ Qt w w' := by
  have h0 : Hid (RunsAt w bl br ro ao cap R X) := h
  have hruns := h.runs
  have hbl : bl < w.heap.size := World.block_lt_of_cell? _ _ h.ord
  have hfew := h.few
  clear h
  go_enter Yba.func12, Yba.ntmps12
  go_wp2_with fail
  refine (search_runs p bp bb bl br ro (w.heap.size + 1) w.heap.size ao cap R X _ ?c1 ha ?c2 ?c3 ?c4 ?c5).mono ?_
  case c1 => exact h0.out.keep (keeps_trans (keeps_alloc _ _) (keeps_alloc _ _))
  case c2 => exact keeps_trans (keeps_alloc _ _) (keeps_alloc _ _) _ _ hp
  case c3 => exact keeps_trans (keeps_alloc _ _) (keeps_alloc _ _) _ _ hb
  case c4 => exact cell_new_at _ _ _ _ (by simp)
  case c5 => exact keeps_alloc _ _ _ _ (cell_new _ _ _)
  rintro e w1 ⟨k, rfl, hk, h1, h2, q, rfl⟩
  have H1 : Hid _ := h1
  have H2 : Hid _ := h2
  clear h1 h2
  by_cases hlt : k < R
  · have hao := h0.out.addr (by omega)
    subst hao
    have hrun := h0.out.run k hlt
    have hbr : br < w.heap.size := World.block_lt_of_cell? _ _ hrun
    have hltz : (k : Int) < (R : Int) := by omega
    have hsh := h0.out.short k hlt
    go_wp2_with fail
    have kp : ∀ (A B C : Obj), Keeps w ((((w.alloc A).alloc B).drewN q).alloc C) := fun A B C => keeps_trans (keeps_trans (keeps_alloc _ _) (keeps_alloc _ _)) (keeps_trans (keeps_drewN _ _) (keeps_alloc _ _))
    refine (search_in p bp bb bl br ro (w.heap.size + 1) (w.heap.size + 1 + 1) (some ⟨br, ro, none⟩) cap R X k _ ?d1 ha hlt ?d2 ?d3 ?d4 ?d5).mono ?_
    case d1 => exact h0.out.keep (kp _ _ _)
    case d2 => exact kp _ _ _ _ _ hp
    case d3 => exact kp _ _ _ _ _ hb
    case d4 => exact keeps_trans (keeps_drewN _ _) (keeps_alloc _ _) _ _ (cell_new_at _ _ _ _ (by simp))
    case d5 => exact cell_new_at _ _ _ _ (by simp)
    rintro e w1 ⟨i, rfl, hi, g1, g2, q2, rfl⟩
    have G1 : Hid _ := g1
    have G2 : Hid _ := g2
    clear g1 g2 kp
    go_wp2_with fail
    go_ret2
    have hpos := h0.out.pos k hlt
    have hlast := H2.out k (Nat.le_refl _) hlt
    have hil : i < (X k).len := by
      rcases Nat.lt_or_ge i (X k).len with h | h
      · exact h
      · have := G1.out ((X k).len - 1) (by omega); omega
    refine ⟨k, i, rfl, ⟨hk, H1.out, fun _ => ⟨hil, G1.out, G2.out i (Nat.le_refl _) hil⟩, fun h => absurd hlt (by omega)⟩, (((((Qt.refl _).alloc _).alloc _).drewN _).alloc _).drewN _⟩
  · go_wp2_with fail
    go_ret2
    have hkR : k = R := by omega
    exact ⟨k, 0, rfl, ⟨hk, H1.out, fun h => absurd h hlt, fun _ => rfl⟩, (((Qt.refl _).alloc _).alloc _).drewN _⟩

set_option maxHeartbeats 800000 in
theorem place_any (p : Int) (bl br ro : Nat) (ao : Option Addr) (cap R : Nat) (X : Nat → RunD) (w : World) (h : RunsAt w bl br ro ao cap R X) (ha : Asc R X) :
    Calls Yba.prog 9 #[.pointer (some ⟨bl, 0, none⟩), .int .i16 p] w fun e w' =>
      ∃ run i : Nat, e = .returned (.tuple #[.int .i64 run, .int .i64 i]) ∧ FoundAt R X p run i ∧ Qt w w' := by
  have h0 : Hid (RunsAt w bl br ro ao cap R X) := h
  clear h
  go_enter Yba.func9, Yba.ntmps9
  go_wp2_with fail
  refine (find_any p (w.heap.size + 1) w.heap.size bl br ro ao cap R X _ ?c1 ha ?c2 ?c3).mono ?_
  case c1 => exact h0.out.keep (keeps_trans (keeps_alloc _ _) (keeps_alloc _ _))
  case c2 => exact cell_new_at _ _ _ _ (by simp)
  case c3 => exact keeps_alloc _ _ _ _ (cell_new _ _ _)
  rintro e w1 ⟨run, i, rfl, hf, hq⟩
  have HF : Hid _ := hf
  clear hf
  go_wp2_with fail
  go_ret2
  exact ⟨run, i, rfl, HF.out, (((Qt.refl _).alloc _).alloc _).trans hq⟩

theorem has_iff {R : Nat} {X : Nat → RunD} {p : Int} {run i : Nat} (ha : Asc R X) (hpos : ∀ r, r < R → 0 < (X r).len) (hf : FoundAt R X p run i) (hr : run < R) : (X run).x i = p ↔ Has R X p := by
  obtain ⟨h1, h2, h3, h4⟩ := hf
  obtain ⟨k1, k2, k3⟩ := h3 hr
  constructor
  · intro h; exact ⟨run, hr, i, k1, h⟩
  · rintro ⟨r, hrR, j, hj, e⟩
    have hp := hpos r hrR
    rcases Nat.lt_trichotomy r run with h | h | h
    · have a := h2 r h
      have b := ha.inn r hrR j ((X r).len - 1) (by omega) (by omega)
      omega
    · subst h
      rcases Nat.lt_or_ge j i with g | g
      · have := k2 j g; omega
      · have := ha.inn r hr i j g hj; omega
    · have a := ha.cross run r h hrR j hj
      have b := ha.inn run hr i ((X run).len - 1) (by omega) (by omega)
      omega

theorem hasnt {R : Nat} {X : Nat → RunD} {p : Int} {run i : Nat} (ha : Asc R X) (hf : FoundAt R X p run i) (hr : ¬ run < R) : ¬ Has R X p := by
  obtain ⟨h1, h2, h3, h4⟩ := hf
  rintro ⟨r, hrR, j, hj, e⟩
  have a := h2 r (by omega)
  have b := ha.inn r hrR j ((X r).len - 1) (by omega) (by omega)
  omega

set_option maxHeartbeats 800000 in
theorem holds_any (p : Int) (bl br ro : Nat) (ao : Option Addr) (cap R : Nat) (X : Nat → RunD) (w : World) (h : RunsAt w bl br ro ao cap R X) (ha : Asc R X) :
    Calls Yba.prog 5 #[.pointer (some ⟨bl, 0, none⟩), .int .i16 p] w fun e w' =>
      ∃ b : Bool, e = .returned (.bool b) ∧ (b = true ↔ Has R X p) ∧ Qt w w' := by
  have h0 : Hid (RunsAt w bl br ro ao cap R X) := h
  have hfew := h.few
  clear h
  go_enter Yba.func5, Yba.ntmps5
  go_wp2_with fail
  refine (place_any p bl br ro ao cap R X _ h0.out ha).mono ?_
  rintro e w1 ⟨run, i, rfl, hf, hq⟩
  have HF : Hid _ := hf
  have HQ : Hid _ := hq
  have k := hq.keeps
  have hruns := k _ _ h0.out.runs
  by_cases hr : run < R
  · have hao := h0.out.addr (by omega)
    subst hao
    have hrun := k _ _ (h0.out.run run hr)
    have hi := (hf.2.2.1 hr).1
    have hnum := k _ _ (h0.out.num run hr i hi)
    have hsh := h0.out.short run hr
    have hltz : (run : Int) < (R : Int) := by omega
    have hltz2 : (i : Int) < ((X run).len : Int) := by omega
    clear hf hq k
    go_wp2_with fail
    go_ret
    refine ⟨_, rfl, ?_, HQ.out⟩
    rw [← has_iff ha h0.out.pos HF.out hr]
    simp
  · clear hf hq k
    go_wp2_with fail
    go_ret
    refine ⟨_, rfl, ?_, HQ.out⟩
    have := hasnt ha HF.out hr
    simp [this]

end Go.Proofs.Ybulkcbhe
