import Derived.Test.YbulkcbheWalkB
namespace Go.Proofs.Ybulkcbhe
open Go.RowKit Go.Sort
set_option linter.unusedVariables false

set_option maxHeartbeats 1600000 in
theorem search_any (g : Nat) (c1 c2 : Value) (n : Nat) (p : Nat → Bool) (w : World) (eg : ∀ args w, (callFunc g args).run Yba.prog w = .ok (.enter g args) w) (hsz : n ≤ 60000)
    (hf : ∀ (m i : Nat), i < n → Calls Yba.prog g #[.int .i64 i, c1, c2] (w.drewN m) fun e w' => e = .returned (.bool (p i)) ∧ ∃ q, w' = (w.drewN m).drewN q)
    (hmono : ∀ a b, a ≤ b → b < n → p a = true → p b = true) :
    Calls Yba.prog 14 #[.int .i64 n, .func (.func g) #[] #[c1, c2]] w fun e w' => ∃ k : Nat, e = .returned (.int .i64 k) ∧ k ≤ n ∧ (∀ t, t < k → p t = false) ∧ (∀ t, k ≤ t → t < n → p t = true) ∧ ∃ q, w' = w.drewN q := by
  have HF : Aside _ := hf
  have M : Aside _ := hmono
  clear hf hmono
  go_enter Yba.func14, Yba.ntmps14
  go_wp2
  go_loopg [5, 6] n (fun kx s5 s6 wr => ∃ (lo hi q : Nat), s5 = .int .i64 lo ∧ s6 = .int .i64 hi ∧ lo ≤ hi ∧ hi ≤ n ∧ hi - lo ≤ kx ∧ wr = w.drewN q ∧
    Aside ((∀ t, t < lo → p t = false) ∧ (∀ t, hi ≤ t → t < n → p t = true)))
  case atStart => exact ⟨0, n, 0, rfl, rfl, Nat.zero_le _, Nat.le_refl _, by omega, rfl, (⟨fun t ht => absurd ht (Nat.not_lt_zero _), fun t h1 h2 => by omega⟩ : (∀ t, t < 0 → p t = false) ∧ (∀ t, n ≤ t → t < n → p t = true))⟩
  case round =>
    obtain ⟨lo, hi, q, rfl, rfl, hlh, hin, hg, rfl, I⟩ := hrel
    by_cases hlt : lo < hi
    · have hc := HF.out q ((lo + hi) / 2) (by omega)
      rw [show (((lo + hi) / 2 : Nat) : Int) = ((lo : Int) + (hi : Int)) / 2 by omega] at hc
      cases hp : p ((lo + hi) / 2) <;> rw [hp] at hc
      · have HP : Aside (p ((lo + hi) / 2) = false) := hp
        clear hp
        go_wp2_with fail
        refine hc.mono ?_
        rintro e w1 ⟨rfl, nq, rfl⟩
        go_wp2
        go_roundg (hi - ((lo + hi) / 2 + 1))
        case measure => omega
        case rel =>
          have I2 : Aside ((∀ t, t < (lo + hi) / 2 + 1 → p t = false) ∧ (∀ t, hi ≤ t → t < n → p t = true)) := ⟨fun t ht => (by
            cases h : p t with
            | false => rfl
            | true => have := M.out t ((lo + hi) / 2) (by omega) (by omega) h; rw [HP.out] at this; cases this), I.out.2⟩
          exact ⟨(lo + hi) / 2 + 1, hi, q + nq, by rw [show ((lo : Int) + (hi : Int)) / 2 + 1 = (((lo + hi) / 2 + 1 : Nat) : Int) by omega], rfl, by omega, hin, Nat.le_refl _, rfl, I2⟩
      · have HP : Aside (p ((lo + hi) / 2) = true) := hp
        clear hp
        go_wp2_with fail
        refine hc.mono ?_
        rintro e w1 ⟨rfl, nq, rfl⟩
        go_wp2
        go_roundg ((lo + hi) / 2 - lo)
        case measure => omega
        case rel =>
          have I2 : Aside ((∀ t, t < lo → p t = false) ∧ (∀ t, (lo + hi) / 2 ≤ t → t < n → p t = true)) := ⟨I.out.1, fun t ht htn => M.out ((lo + hi) / 2) t ht htn HP.out⟩
          exact ⟨lo, (lo + hi) / 2, q + nq, rfl, by rw [show ((lo : Int) + (hi : Int)) / 2 = (((lo + hi) / 2 : Nat) : Int) by omega], by omega, by omega, Nat.le_refl _, rfl, I2⟩
    · obtain rfl : hi = lo := by omega
      go_wp2
      go_ret
      exact ⟨hi, rfl, hin, I.out.1, I.out.2, q, rfl⟩

/-- One run in memory: its block, its first cell, its capacity, its length, its numbers. -/
structure RunD where
  xb : Nat
  xo : Nat
  cp : Nat
  len : Nat
  x : Nat → Int

/-- The list at block bl: its order, its runs, each run's numbers. -/
structure RunsAt (w : World) (bl br ro : Nat) (ao : Option Addr) (cap R : Nat) (X : Nat → RunD) : Prop where
  ord : w.cell? ⟨bl, 0, none⟩ = some (.int .i64 0)
  runs : w.cell? ⟨bl, 1, none⟩ = some (.slice ao R cap)
  addr : 0 < R → ao = some ⟨br, ro, none⟩
  run : ∀ r, r < R → w.cell? ⟨br, ro + r, none⟩ = some (.slice (some ⟨(X r).xb, (X r).xo, none⟩) (X r).len (X r).cp)
  pos : ∀ r, r < R → 0 < (X r).len
  num : ∀ r, r < R → ∀ i, i < (X r).len → w.cell? ⟨(X r).xb, (X r).xo + i, none⟩ = some (.int .i16 ((X r).x i))
  few : R ≤ 60000
  short : ∀ r, r < R → (X r).len ≤ 60000

/-- The numbers ascend. -/
structure Asc (R : Nat) (X : Nat → RunD) : Prop where
  inn : ∀ r, r < R → ∀ i j, i ≤ j → j < (X r).len → (X r).x i ≤ (X r).x j
  last : ∀ a b, a ≤ b → b < R → (X a).x ((X a).len - 1) ≤ (X b).x ((X b).len - 1)
  cross : ∀ a b, a < b → b < R → ∀ j, j < (X b).len → (X a).x ((X a).len - 1) ≤ (X b).x j

/-- Is p one of the numbers? -/
def Has (R : Nat) (X : Nat → RunD) (p : Int) : Prop := ∃ r, r < R ∧ ∃ j, j < (X r).len ∧ (X r).x j = p

/-- What 'find' answers. -/
def FoundAt (R : Nat) (X : Nat → RunD) (p : Int) (run i : Nat) : Prop :=
  run ≤ R ∧ (∀ t, t < run → (X t).x ((X t).len - 1) < p) ∧ (run < R → i < (X run).len ∧ (∀ j, j < i → (X run).x j < p) ∧ p ≤ (X run).x i) ∧ (run = R → i = 0)

/-- All that was there reads as it did. -/
def Keeps (w w' : World) : Prop := ∀ a v, w.cell? a = some v → w'.cell? a = some v

theorem keeps_refl (w : World) : Keeps w w := fun _ _ h => h
theorem keeps_alloc (w : World) (o : Obj) : Keeps w (w.alloc o) := fun a v h => by
  have hb := World.block_lt_of_cell? _ _ h
  rw [alloc_eq_grow, cell?_grow _ _ _ hb]; exact h
theorem keeps_drewN (w : World) (n : Nat) : Keeps w (w.drewN n) := fun a v h => h
theorem keeps_trans {a b c : World} (h : Keeps a b) (k : Keeps b c) : Keeps a c := fun x v e => k x v (h x v e)

theorem RunsAt.keep {w w' : World} {bl br ro : Nat} {ao : Option Addr} {cap R : Nat} {X : Nat → RunD} (h : RunsAt w bl br ro ao cap R X) (k : Keeps w w') : RunsAt w' bl br ro ao cap R X :=
  ⟨k _ _ h.ord, k _ _ h.runs, h.addr, fun r hr => k _ _ (h.run r hr), h.pos, fun r hr i hi => k _ _ (h.num r hr i hi), h.few, h.short⟩

/-- The world has drawn, and blocks have been laid behind: nothing else. -/
def Qt (w w' : World) : Prop := ∃ q os, w' = grow (w.drewN q) os
theorem Qt.refl (w : World) : Qt w w := ⟨0, #[], by rw [grow_empty]; rfl⟩
theorem Qt.alloc {w a : World} (h : Qt w a) (o : Obj) : Qt w (a.alloc o) := by
  obtain ⟨q, os, rfl⟩ := h
  exact ⟨q, os ++ #[o], by rw [alloc_eq_grow, grow_grow]⟩
theorem Qt.drewN {w a : World} (h : Qt w a) (n : Nat) : Qt w (a.drewN n) := by
  obtain ⟨q, os, rfl⟩ := h
  exact ⟨q + n, os, by rw [← World.drewN_drewN]; rfl⟩
theorem Qt.drew {w a : World} (h : Qt w a) : Qt w a.drew := h.drewN 1
theorem Qt.trans {a b c : World} (h : Qt a b) (k : Qt b c) : Qt a c := by
  obtain ⟨q, os, rfl⟩ := h
  obtain ⟨q2, os2, rfl⟩ := k
  refine ⟨q + q2, os ++ os2, ?_⟩
  rw [← World.drewN_drewN, ← grow_grow]
  rfl
theorem Qt.keeps {w w' : World} (h : Qt w w') : Keeps w w' := by
  obtain ⟨q, os, rfl⟩ := h
  intro a v hv
  have hb := World.block_lt_of_cell? _ _ hv
  exact (cell?_grow (w.drewN q) os a hb).trans hv
theorem Qt.size {w w' : World} (h : Qt w w') : w.heap.size ≤ w'.heap.size := by
  obtain ⟨q, os, rfl⟩ := h
  rw [size_grow]; exact Nat.le_add_right _ _
theorem Qt.block {w w' : World} (h : Qt w w') (k : Nat) (hk : k < w.heap.size) : w'.heap[k]? = w.heap[k]? := by
  obtain ⟨q, os, rfl⟩ := h
  exact heap_grow_old (w.drewN q) os hk
theorem Qt.frozen {w w' : World} (h : Qt w w') (a : Addr) (hk : a.block < w.heap.size) : w'.frozen? a = w.frozen? a := by
  obtain ⟨q, os, rfl⟩ := h
  exact frozen?_grow (w.drewN q) os a hk
theorem Qt.cell {w w' : World} (h : Qt w w') (a : Addr) (hk : a.block < w.heap.size) : w'.cell? a = w.cell? a := by
  obtain ⟨q, os, rfl⟩ := h
  exact cell?_grow (w.drewN q) os a hk
theorem Qt.below {w w' : World} (h : Qt w w') : Below w.heap.size w w' := by
  have hs := h.size
  have hb := h.block
  obtain ⟨q, os, rfl⟩ := h
  exact ⟨rfl, rfl, rfl, hs, hb⟩

theorem cell_new (W : World) (v : Value) (t : TypeId) : (W.alloc (.cells #[v] t)).cell? ⟨W.heap.size, 0, none⟩ = some v := by
  rw [World.cell?_alloc_at _ _ _ _ (by simp)]; rfl

end Go.Proofs.Ybulkcbhe
