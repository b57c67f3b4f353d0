import Derived.WalkKit
import Derived.Sort.Grow
namespace Go.Proofs.Ybulkcbhe
open Go.RowKit Go.Sort
set_option linter.unusedVariables false

/-! Blocks of the call's own, written out. -/
theorem blk_cell {w : World} {b : Nat} {c : Array Value} {e : TypeId} (h : w.heap[b]? = some (.cells c e (0, 0))) (i : Nat) : w.cell? ⟨b, i, none⟩ = c[i]? := by simp [World.cell?, h]
theorem blk_free {w : World} {b : Nat} {c : Array Value} {e : TypeId} (h : w.heap[b]? = some (.cells c e (0, 0))) (i : Nat) : w.frozen? ⟨b, i, none⟩ = false := by simp [World.frozen?, h]
theorem blk_lt {w : World} {b : Nat} {o : Obj} (h : w.heap[b]? = some o) : b < w.heap.size := lt_of_block h
theorem blk_set {w : World} {b : Nat} {c : Array Value} {e : TypeId} (h : w.heap[b]? = some (.cells c e (0, 0))) (i : Nat) (v : Value) : (w.setCell ⟨b, i, none⟩ v).heap[b]? = some (.cells (c.setIfInBounds i v) e (0, 0)) := by
  have hlt := lt_of_block h
  have h' : w.heap[b] = .cells c e (0, 0) := by simpa [Array.getElem?_eq_getElem hlt] using h
  show (w.heap.modify b _)[b]? = _
  rw [Array.getElem?_eq_getElem (by simpa using hlt), Array.getElem_modify_self, h']
  rfl
theorem blk_set_other {w : World} {b : Nat} {o : Option Obj} (h : w.heap[b]? = o) (a : Addr) (v : Value) (hne : b ≠ a.block) : (w.setCell a v).heap[b]? = o := by
  rw [Below.heap_setCell _ _ _ _ hne]; exact h
theorem blk_alloc {w : World} {b : Nat} {o : Obj} (h : w.heap[b]? = some o) (x : Obj) : (w.alloc x).heap[b]? = some o := by
  rw [Below.heap_alloc _ _ _ (lt_of_block h)]; exact h
theorem blk_grown {w w' : World} {b : Nat} {o : Obj} {row : Option Nat} (h : w.heap[b]? = some o) (g : w.grownBy w' row) (hne : some b ≠ row) : w'.heap[b]? = some o := by
  rw [g.block b (lt_of_block h) hne]; exact h
theorem blk_below {w w' : World} {b B : Nat} {o : Option Obj} (h : w.heap[b]? = o) (g : Below B w w') (hb : b < B) : w'.heap[b]? = o := by
  rw [g.block b hb]; exact h

/-! The table of 256 flags. -/
def zeros256 : Array Value := Array.replicate 256 (.bool false)
def Flags (w : World) (b : Nat) (f : Nat → Bool) : Prop := ∃ c, w.heap[b]? = some (.cells c 24 (0, 0)) ∧ c.size = 256 ∧ ∀ v, v < 256 → c[v]? = some (.bool (f v))
theorem Flags.cell {w : World} {b : Nat} {f : Nat → Bool} (h : Flags w b f) (v : Nat) (hv : v < 256) : w.cell? ⟨b, v, none⟩ = some (.bool (f v)) := by
  obtain ⟨c, h1, h2, h3⟩ := h
  rw [blk_cell h1]; exact h3 v hv
theorem Flags.free {w : World} {b : Nat} {f : Nat → Bool} (h : Flags w b f) (v : Nat) : w.frozen? ⟨b, v, none⟩ = false := by
  obtain ⟨c, h1, h2, h3⟩ := h
  exact blk_free h1 v
theorem Flags.lt {w : World} {b : Nat} {f : Nat → Bool} (h : Flags w b f) : b < w.heap.size := by
  obtain ⟨c, h1, h2, h3⟩ := h
  exact lt_of_block h1
theorem Flags.congr {w : World} {b : Nat} {f g : Nat → Bool} (h : Flags w b f) (e : ∀ v, v < 256 → f v = g v) : Flags w b g := by
  obtain ⟨c, h1, h2, h3⟩ := h
  exact ⟨c, h1, h2, fun v hv => by rw [← e v hv]; exact h3 v hv⟩
theorem Flags.set {w : World} {b : Nat} {f : Nat → Bool} (h : Flags w b f) (i : Nat) (x : Bool) : Flags (w.setCell ⟨b, i, none⟩ (.bool x)) b (fun v => if v = i then x else f v) := by
  obtain ⟨c, h1, h2, h3⟩ := h
  refine ⟨_, blk_set h1 i _, by simpa using h2, fun v hv => ?_⟩
  rw [Array.getElem?_setIfInBounds]
  by_cases e : i = v
  · subst e; simp [h2, hv]
  · have e' : ¬ v = i := fun h => e h.symm
    simp [e, e', h3 v hv]
theorem Flags.alloc {w : World} {b : Nat} {f : Nat → Bool} (h : Flags w b f) (o : Obj) : Flags (w.alloc o) b f := by
  obtain ⟨c, h1, h2, h3⟩ := h
  exact ⟨c, blk_alloc h1 o, h2, h3⟩
theorem Flags.grown {w w' : World} {b : Nat} {f : Nat → Bool} {row : Option Nat} (h : Flags w b f) (g : w.grownBy w' row) (hne : some b ≠ row) : Flags w' b f := by
  obtain ⟨c, h1, h2, h3⟩ := h
  exact ⟨c, blk_grown h1 g hne, h2, h3⟩
theorem Flags.below {w w' : World} {b B : Nat} {f : Nat → Bool} (h : Flags w b f) (g : Below B w w') (hb : b < B) : Flags w' b f := by
  obtain ⟨c, h1, h2, h3⟩ := h
  exact ⟨c, blk_below h1 g hb, h2, h3⟩
theorem Flags.new (w : World) : Flags (w.alloc (.cells zeros256 24)) w.heap.size (fun _ => false) := by
  refine ⟨zeros256, heap_alloc_new w _, by simp [zeros256], fun v hv => ?_⟩
  simp [zeros256, hv]

/-! Which values the first k keys have marked. -/
def mark (zs : List Int) (k v : Nat) : Bool := (zs.take k).any (fun z => z + 128 == (v : Int))
theorem mark_zero (zs : List Int) (v : Nat) : mark zs 0 v = false := by simp [mark]
theorem mark_succ (zs : List Int) (k : Nat) (h : k < zs.length) (v : Nat) (hlo : -128 ≤ zs.getD k 0) : mark zs (k + 1) v = if v = (zs.getD k 0 + 128).toNat then true else mark zs k v := by
  have e : zs.take (k + 1) = zs.take k ++ [zs.getD k 0] := by
    rw [List.take_succ_eq_append_getElem h]
    simp [List.getD, h]
  unfold mark
  rw [e, List.any_append]
  by_cases hv : v = (zs.getD k 0 + 128).toNat
  · rw [if_pos hv]
    have : (zs.getD k 0 + 128 == (v : Int)) = true := by
      rw [beq_iff_eq]; omega
    simp only [List.any_cons, List.any_nil, this, Bool.or_true, Bool.true_or]
  · rw [if_neg hv]
    have : (zs.getD k 0 + 128 == (v : Int)) = false := by
      rw [beq_eq_false_iff_ne]; omega
    simp only [List.any_cons, List.any_nil, this, Bool.or_false]

theorem flags_mark {w : World} {b : Nat} {zs : List Int} {k : Nat} (h : Flags w b (mark zs k)) (hk : k < zs.length) (hlo : -128 ≤ zs.getD k 0) : Flags (w.setCell ⟨b, (zs.getD k 0 + 128).toNat, none⟩ (.bool true)) b (mark zs (k + 1)) :=
  (h.set _ true).congr fun v hv => (mark_succ zs k hk v hlo).symm

/-! The sorted list of the marked values. -/
def srt (f : Nat → Bool) (k : Nat) : List Int := ((List.range k).filter f).map (fun v : Nat => (v : Int) - 128)
theorem srt_zero (f : Nat → Bool) : srt f 0 = [] := rfl
theorem srt_yes (f : Nat → Bool) (k : Nat) (h : f k = true) : srt f (k + 1) = srt f k ++ [(k : Int) - 128] := by
  simp [srt, List.range_succ, List.filter_append, h]
theorem srt_no (f : Nat → Bool) (k : Nat) (h : f k = false) : srt f (k + 1) = srt f k := by
  simp [srt, List.range_succ, List.filter_append, h]
theorem srt_len (f : Nat → Bool) (k : Nat) : (srt f k).length ≤ k := by
  unfold srt
  rw [List.length_map]
  have := List.length_filter_le f (List.range k)
  simpa using this
theorem srt_mem (f : Nat → Bool) (k v : Nat) (hv : v < k) : ((v : Int) - 128 ∈ srt f k) ↔ f v = true := by
  unfold srt
  simp only [List.mem_map, List.mem_filter, List.mem_range]
  constructor
  · rintro ⟨a, ⟨h1, h2⟩, e⟩
    have : a = v := by omega
    subst this; exact h2
  · intro h; exact ⟨v, ⟨hv, h⟩, rfl⟩
theorem srt_asc (f : Nat → Bool) (k : Nat) : (srt f k).Pairwise (· < ·) := by
  unfold srt
  have h := (List.pairwise_lt_range (n := k)).filter f
  exact h.map _ (fun a b (e : a < b) => by omega)
theorem srt_mono (f : Nat → Bool) (k i j : Nat) (hij : i ≤ j) (hj : j < (srt f k).length) : (srt f k).getD i 0 ≤ (srt f k).getD j 0 := by
  rcases Nat.lt_or_eq_of_le hij with h | h
  · have := List.pairwise_iff_getElem.1 (srt_asc f k) i j (by omega) hj h
    simp only [List.getD_eq_getElem?_getD, List.getElem?_eq_getElem hj, List.getElem?_eq_getElem (show i < (srt f k).length by omega), Option.getD_some]
    omega
  · subst h; exact Int.le_refl _

/-- Behind one append onto the sorted row: the flags and all old memory are as they were. -/
theorem row_step {w wr w1 : World} {B : Nat} {e : TypeId} {size n : Nat} {s : Value} {xs : List Value} {f : Nat → Bool} {o : Obj} (hown : wr.ownsRow (B + 1) e size s n xs) (hfl : Flags wr B f) (hbe : Below B w wr) (hgr : (wr.alloc o).grownBy w1 s.ownBlock) :
    Flags w1 B f ∧ Below B w w1 := by
  have hnb : ∀ k, s.ownBlock = some k → B + 1 ≤ k := fun k hk => (hown.lt k hk).1
  have hlt := hfl.lt
  refine ⟨(hfl.alloc _).grown hgr (fun e => by have := hnb _ e.symm; omega), (hbe.alloc (by omega) _).grown hgr (by simp; omega) (fun k hk => by have := hnb k hk; omega)⟩
end Go.Proofs.Ybulkcbhe
