import Derived.Test.YbulkcbheWalkD
import Derived.Test.YbulkcbheParts
import Derived.Deep.RegionLaw
namespace Go.Proofs.Ybulkcbhe
open Go.RowKit Go.Sort
set_option linter.unusedVariables false

/-- append onto a row of the call's own, as one step of a region that draws. -/
theorem step_append_own {P : Program} {ops : Array Oper} {o : Oper} {a : Act} {w : World} {K : Act → World → Prop} {Q : Exit → Act → World → Prop} {E : Prop}
    (hg : o.guard = none) (s x : Operand) (t : TypeId) (ho : o.op = .call { callee := .builtin .append, args := #[s, x], argTypes := #[t, t] })
    (base : Nat) (e : TypeId) (i : TypeInfo) (z : Value) (size bytes : Nat) (ht : P.underlying t = some (.slice e)) (hi : P.info? e = some i) (hz : i.zero = some z)
    (hsize : i.size = size) (hby : i.bytes = bytes) (hzs : z.cells.size = size) (hsz : 0 < size)
    (v : Value) (n : Nat) (xs : List Value) (hs : a.eval s = v) (hown : w.ownsRow base e size v n xs)
    (ad : Addr) (m c : Nat) (news : List Value) (hx : a.eval x = .slice (some ad) m c) (hl : news.length = m * size) (hnews : ∀ j u, news[j]? = some u → w.cell? (ad.add j) = some u) (h1 : ∀ u ∈ news, u.oneCell' = true)
    (h63 : n + m ≤ maxLen) (hbytes : (n + m) * bytes ≤ 140737488355328) (hbase : base ≤ w.heap.size)
    (h : ∀ v' w', w'.ownsRow base e size v' (n + m) (xs ++ news) → w.grownBy w' v.ownBlock → (v' = .slice none 0 0 ↔ v = .slice none 0 0 ∧ m = 0) → K (a.put o.dst v') w') :
    if Region.wanted o (yielded ops a.tmps) = true then Oper.wp P o a w K Q else E := by
  have hw : Region.wanted o (yielded ops a.tmps) = true := by simp [Region.wanted, hg]
  rw [if_pos hw]
  exact wp_append_own w s x t ho base e i z size bytes ht hi hz hsize hby hzs hsz v n xs hs hown ad m c news hx hl hnews h1 h63 hbytes hbase h

theorem own_form {w : World} {base : Nat} {e : TypeId} {size n : Nat} {v : Value} {xs : List Value} (h : w.ownsRow base e size v (n + 1) xs) : ∃ g cap, v = .slice (some ⟨g, 0, none⟩) (n + 1) cap ∧ base ≤ g := by
  rcases h.2 with ⟨_, h0⟩ | ⟨g, cap, cur, hv, hb, _⟩
  · omega
  · exact ⟨g, cap, hv, hb⟩

/-- The list's own block behind one more run. -/
theorem run_step {W2 wr w1 : World} {BL R g' cap' : Nat} {rv nv x : Value} {vals : List Value} {o : Obj} (hbl : wr.heap[BL]? = some (.cells #[.int .i64 0, rv, nv] 33 (0, 0))) (hown : wr.ownsRow (BL + 1) 26 1 rv R vals) (hbe : Below BL W2 wr)
    (hown' : w1.ownsRow (BL + 1) 26 1 (.slice (some ⟨g', 0, none⟩) (R + 1) cap') (R + 1) (vals ++ [x])) (hgr : (wr.alloc o).grownBy w1 rv.ownBlock) :
    w1.heap[BL]? = some (.cells #[.int .i64 0, rv, nv] 33 (0, 0)) ∧
    (w1.setCell ⟨BL, 1, none⟩ (.slice (some ⟨g', 0, none⟩) (R + 1) cap')).heap[BL]? = some (.cells #[.int .i64 0, .slice (some ⟨g', 0, none⟩) (R + 1) cap', nv] 33 (0, 0)) ∧
    (w1.setCell ⟨BL, 1, none⟩ (.slice (some ⟨g', 0, none⟩) (R + 1) cap')).ownsRow (BL + 1) 26 1 (.slice (some ⟨g', 0, none⟩) (R + 1) cap') (R + 1) (vals ++ [x]) ∧
    Below BL W2 (w1.setCell ⟨BL, 1, none⟩ (.slice (some ⟨g', 0, none⟩) (R + 1) cap')) := by
  have hnb : ∀ k, rv.ownBlock = some k → BL + 1 ≤ k := fun k hk => (hown.lt k hk).1
  have hlt := lt_of_block hbl
  have h1 : w1.heap[BL]? = some (.cells #[.int .i64 0, rv, nv] 33 (0, 0)) := blk_grown (blk_alloc hbl o) hgr (fun e => by have := hnb _ e.symm; omega)
  have hg' := (hown'.lt g' rfl).1
  refine ⟨h1, blk_set h1 1 _, ownsRow_setCell_other hown' (by simp [Value.ownBlock]; omega) _, ?_⟩
  exact ((hbe.alloc (by omega) o).grown hgr (by simp; omega) (fun k hk => by have := hnb k hk; omega)).setCell (Nat.le_refl _) _

/-! The cuts of the sorted row into runs. -/
structure Cuts (ls : List (Nat × Nat)) (j : Nat) : Prop where
  pos : ∀ r, r < ls.length → 0 < (ls.getD r (0, 0)).2
  fit : ∀ r, r < ls.length → (ls.getD r (0, 0)).1 + (ls.getD r (0, 0)).2 ≤ j
  ord : ∀ a b, a < b → b < ls.length → (ls.getD a (0, 0)).1 + (ls.getD a (0, 0)).2 ≤ (ls.getD b (0, 0)).1
  cov : ∀ t, t < j → ∃ r, r < ls.length ∧ (ls.getD r (0, 0)).1 ≤ t ∧ t < (ls.getD r (0, 0)).1 + (ls.getD r (0, 0)).2
  cnt : ls.length ≤ j

theorem cuts_nil : Cuts [] 0 := ⟨fun r h => by simp at h, fun r h => by simp at h, fun a b _ h => by simp at h, fun t h => by omega, by simp⟩
theorem getD_snoc_lt (ls : List (Nat × Nat)) (c : Nat × Nat) (r : Nat) (h : r < ls.length) : (ls ++ [c]).getD r (0, 0) = ls.getD r (0, 0) := by
  simp [List.getD_eq_getElem?_getD, List.getElem?_append_left h]
theorem getD_snoc_eq (ls : List (Nat × Nat)) (c : Nat × Nat) : (ls ++ [c]).getD ls.length (0, 0) = c := by
  simp [List.getD_eq_getElem?_getD]
theorem cuts_push {ls : List (Nat × Nat)} {j e : Nat} (h : Cuts ls j) (hje : j < e) : Cuts (ls ++ [(j, e - j)]) e := by
  have hl : (ls ++ [(j, e - j)]).length = ls.length + 1 := by simp
  refine ⟨?_, ?_, ?_, ?_, ?_⟩
  · intro r hr
    rcases Nat.lt_or_ge r ls.length with g | g
    · rw [getD_snoc_lt _ _ _ g]; exact h.pos r g
    · obtain rfl : r = ls.length := by omega
      rw [getD_snoc_eq]; show 0 < e - j; omega
  · intro r hr
    rcases Nat.lt_or_ge r ls.length with g | g
    · rw [getD_snoc_lt _ _ _ g]; have := h.fit r g; omega
    · obtain rfl : r = ls.length := by omega
      rw [getD_snoc_eq]; show j + (e - j) ≤ e; omega
  · intro a b hab hb
    rw [getD_snoc_lt _ _ a (by omega)]
    rcases Nat.lt_or_ge b ls.length with g | g
    · rw [getD_snoc_lt _ _ _ g]; exact h.ord a b hab g
    · obtain rfl : b = ls.length := by omega
      rw [getD_snoc_eq]; exact h.fit a hab
  · intro t ht
    rcases Nat.lt_or_ge t j with g | g
    · obtain ⟨r, h1, h2⟩ := h.cov t g
      exact ⟨r, by omega, by rw [getD_snoc_lt _ _ _ h1]; exact h2⟩
    · refine ⟨ls.length, by omega, ?_⟩
      rw [getD_snoc_eq]
      exact ⟨g, by show t < j + (e - j); omega⟩
  · have := h.cnt; omega

theorem int_getD (xs : List Int) (t : Nat) (h : t < xs.length) : xs.getD t 0 = xs[t] := by
  simp [List.getD_eq_getElem?_getD, List.getElem?_eq_getElem h]

def runOf (g cap : Nat) (xs : List Int) (c : Nat × Nat) : RunD := { xb := g, xo := c.1, cp := cap - c.1, len := c.2, x := fun i => xs.getD (c.1 + i) 0 }
def runVal (g cap : Nat) (c : Nat × Nat) : Value := .slice (some ⟨g, c.1, none⟩) c.2 (cap - c.1)

theorem cuts_asc {ls : List (Nat × Nat)} {xs : List Int} (g cap : Nat) (h : Cuts ls xs.length) (hm : ∀ i j, i ≤ j → j < xs.length → xs.getD i 0 ≤ xs.getD j 0) : Asc ls.length (fun r => runOf g cap xs (ls.getD r (0, 0))) := by
  refine ⟨?_, ?_, ?_⟩
  · intro r hr i j hij hj
    have := h.fit r hr
    exact hm _ _ (by omega) (by simp only [runOf] at hj; omega)
  · intro a b hab hb
    have h1 := h.pos a (by omega)
    have h2 := h.pos b hb
    have h3 := h.fit b hb
    refine hm _ _ ?_ ?_
    · simp only [runOf]
      rcases Nat.lt_or_eq_of_le hab with g | g
      · have := h.ord a b g hb; omega
      · subst g; omega
    · simp only [runOf]; omega
  · intro a b hab hb j hj
    have h1 := h.pos a (by omega)
    have h3 := h.fit b hb
    have h4 := h.ord a b hab hb
    simp only [runOf] at hj
    refine hm _ _ ?_ ?_
    · simp only [runOf]; omega
    · omega

theorem cuts_has {ls : List (Nat × Nat)} {xs : List Int} (g cap : Nat) (h : Cuts ls xs.length) (p : Int) : Has ls.length (fun r => runOf g cap xs (ls.getD r (0, 0))) p ↔ p ∈ xs := by
  constructor
  · rintro ⟨r, hr, j, hj, e⟩
    have := h.fit r hr
    simp only [runOf] at hj e
    have hl : (ls.getD r (0, 0)).1 + j < xs.length := by omega
    rw [← e, int_getD _ _ hl]
    exact List.getElem_mem hl
  · intro hp
    obtain ⟨t, ht, e⟩ := List.getElem_of_mem hp
    obtain ⟨r, hr, h1, h2⟩ := h.cov t ht
    refine ⟨r, hr, t - (ls.getD r (0, 0)).1, by simp only [runOf]; omega, ?_⟩
    simp only [runOf]
    rw [show (ls.getD r (0, 0)).1 + (t - (ls.getD r (0, 0)).1) = t by omega]
    rw [int_getD _ _ ht]; exact e

/-- The list in memory, out of what the call owns. -/
theorem runs_of {w : World} {BL g cap : Nat} {ls : List (Nat × Nat)} {xs : List Int} {rv nv : Value} {cur : Array Value} (hbl : w.heap[BL]? = some (.cells #[.int .i64 0, rv, nv] 33 (0, 0)))
    (hown : w.ownsRow (BL + 1) 26 1 rv ls.length (ls.map (runVal g cap))) (hc : Cuts ls xs.length) (hx : xs.length ≤ 256)
    (hg : 0 < xs.length → ∃ cur : Array Value, w.heap[g]? = some (.cells cur 28 (0, 0)) ∧ cur.toList.take xs.length = xs.map (Value.int .i16)) :
    ∃ br ao rc, RunsAt w BL br 0 ao rc ls.length (fun r => runOf g cap xs (ls.getD r (0, 0))) := by
  have h0 := blk_cell hbl 0
  have h1 := blk_cell hbl 1
  have hcnt := hc.cnt
  have hnum : ∀ r, r < ls.length → ∀ i, i < (ls.getD r (0, 0)).2 → w.cell? ⟨g, (ls.getD r (0, 0)).1 + i, none⟩ = some (.int .i16 (xs.getD ((ls.getD r (0, 0)).1 + i) 0)) := by
    intro r hr i hi
    have hf := hc.fit r hr
    obtain ⟨cur, hgc, hcur⟩ := hg (by omega)
    rw [blk_cell hgc]
    have hl : (ls.getD r (0, 0)).1 + i < xs.length := by omega
    have e : (cur.toList.take xs.length)[(ls.getD r (0, 0)).1 + i]? = (xs.map (Value.int .i16))[(ls.getD r (0, 0)).1 + i]? := by rw [hcur]
    rw [List.getElem?_take_of_lt hl, List.getElem?_map, List.getElem?_eq_getElem hl] at e
    rw [← Array.getElem?_toList, e, int_getD _ _ hl]
    rfl
  rcases hown.2 with ⟨hv, hn⟩ | ⟨br, rc, rcur, hv, hb, hh, hnc, hcm, hcs, htk⟩
  · subst hv
    refine ⟨0, none, 0, ⟨by simpa using h0, by rw [hn]; simpa using h1, fun h => by omega, fun r hr => by omega, fun r hr => by omega, fun r hr => by omega, by omega, fun r hr => by omega⟩⟩
  · subst hv
    refine ⟨br, some ⟨br, 0, none⟩, rc, ⟨by simpa using h0, by simpa using h1, fun _ => rfl, ?_, fun r hr => hc.pos r hr, fun r hr i hi => hnum r hr i hi, by omega, fun r hr => ?_⟩⟩
    · intro r hr
      rw [blk_cell hh]
      have e : (rcur.toList.take (ls.length * 1))[r]? = (ls.map (runVal g cap))[r]? := by rw [htk]
      rw [Nat.mul_one, List.getElem?_take_of_lt hr, List.getElem?_map, List.getElem?_eq_getElem hr] at e
      rw [Nat.zero_add, ← Array.getElem?_toList, e]
      simp [List.getD_eq_getElem?_getD, List.getElem?_eq_getElem hr, runOf, runVal]
    · have := hc.fit r hr
      show (ls.getD r (0, 0)).2 ≤ 60000
      omega

/-- The sorted row, taken apart: nil or not. -/
theorem row_open {w : World} {base : Nat} {v : Value} {xs : List Int} (h : w.ownsRow base 28 1 v xs.length (xs.map (Value.int .i16))) :
    ∃ sa cap g, v = .slice sa xs.length cap ∧ cap ≤ maxLen ∧ (0 < xs.length → sa = some ⟨g, 0, none⟩ ∧ xs.length ≤ cap ∧ base ≤ g ∧ g < w.heap.size ∧ ∃ cur : Array Value, w.heap[g]? = some (.cells cur 28 (0, 0)) ∧ cur.toList.take xs.length = xs.map (Value.int .i16)) := by
  rcases h.2 with ⟨hv, hn⟩ | ⟨g, cap, cur, hv, hb, hh, hnc, hcm, hcs, htk⟩
  · exact ⟨none, 0, 0, by rw [hn]; exact hv, by unfold maxLen; omega, fun h => by omega⟩
  · exact ⟨_, cap, g, hv, hcm, fun _ => ⟨rfl, hnc, hb, lt_of_block hh, cur, hh, by rw [Nat.mul_one] at htk; exact htk⟩⟩
end Go.Proofs.Ybulkcbhe
