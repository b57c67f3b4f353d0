import Derived.Test.YbulkcbheWalkR
import Derived.Test.YbulkcbheWalkE
import Derived.Test.YbulkcbheWalkF
namespace Go.Proofs.Ybulkcbhe
open Go.RowKit Go.Sort
set_option linter.unusedVariables false

/-! The sorted list of the marked values, parted at m. -/
def tl (f : Nat → Bool) (m : Nat) : List Int := ((List.range' (m + 1) (255 - m)).filter f).map (fun v : Nat => (v : Int) - 128)
theorem srt_part (f : Nat → Bool) (m : Nat) (hm : m < 256) : srt f 256 = srt f m ++ ((if f m then [(m : Int) - 128] else []) ++ tl f m) := by
  have e : List.range 256 = List.range m ++ (m :: List.range' (m + 1) (255 - m)) := by
    rw [List.range_eq_range', List.range_eq_range']
    rw [show (256 : Nat) = m + (1 + (255 - m)) by omega, ← List.range'_append_1, Nat.zero_add]
    congr 1
    rw [Nat.add_comm 1, List.range'_succ]
  unfold srt tl
  rw [e, List.filter_append, List.map_append, List.filter_cons]
  cases f m <;> simp
theorem srt_congr (f g : Nat → Bool) (m : Nat) (h : ∀ v, v < m → f v = g v) : srt f m = srt g m := by
  unfold srt
  congr 1
  apply List.filter_congr
  intro v hv
  exact h v (by simpa using hv)
theorem tl_congr (f g : Nat → Bool) (m : Nat) (h : ∀ v, m < v → f v = g v) : tl f m = tl g m := by
  unfold tl
  congr 1
  apply List.filter_congr
  intro v hv
  have := List.mem_range'_1.1 hv
  exact h v (by omega)
theorem srt_lt (f : Nat → Bool) (m : Nat) : ∀ a ∈ srt f m, a < (m : Int) - 128 := by
  intro a ha
  simp only [srt, List.mem_map, List.mem_filter, List.mem_range] at ha
  obtain ⟨v, ⟨h1, h2⟩, rfl⟩ := ha
  omega
theorem tl_gt (f : Nat → Bool) (m : Nat) : ∀ a ∈ tl f m, (m : Int) - 128 < a := by
  intro a ha
  simp only [tl, List.mem_map, List.mem_filter] at ha
  obtain ⟨v, ⟨h1, h2⟩, rfl⟩ := ha
  have := List.mem_range'_1.1 h1
  omega
def put (f : Nat → Bool) (m : Nat) (x : Bool) : Nat → Bool := fun v => if v = m then x else f v
theorem srt_put (f : Nat → Bool) (m : Nat) (x : Bool) (hm : m < 256) : srt (put f m x) 256 = srt f m ++ ((if x then [(m : Int) - 128] else []) ++ tl f m) := by
  rw [srt_part _ m hm, srt_congr (put f m x) f m (fun v hv => by simp [put]; omega), tl_congr (put f m x) f m (fun v hv => by simp [put]; omega)]
  simp [put]

/-! The list's invariant goes on where other blocks turn. -/
theorem LInv.alloc {w : World} {bl : Nat} {nv : Value} {xs : List Int} (h : LInv w bl nv xs) (o : Obj) : LInv (w.alloc o) bl nv xs := by
  rcases h with ⟨h0, rv, h1, h2⟩ | ⟨h0, br, rc, rcur, bc, off, cp, cur, h1⟩
  · exact .inl ⟨h0, rv, blk_alloc h1 o, h2.alloc o⟩
  · exact .inr ⟨h0, br, rc, rcur, bc, off, cp, cur, h1.qt ((Qt.refl w).alloc o)⟩
theorem LInv.setBelow {w : World} {bl : Nat} {nv : Value} {xs : List Int} (h : LInv w bl nv xs) (a : Addr) (v : Value) (ha : a.block < bl) : LInv (w.setCell a v) bl nv xs := by
  rcases h with ⟨h0, rv, h1, h2⟩ | ⟨h0, br, rc, rcur, bc, off, cp, cur, h1⟩
  · exact .inl ⟨h0, rv, blk_set_other h1 _ _ (by omega), ownsRow_setCell_below h2 (by omega) v⟩
  · have k1 := h1.hbr
    have k2 := h1.hbc
    exact .inr ⟨h0, br, rc, rcur, bc, off, cp, cur, ⟨blk_set_other h1.lb _ _ (by omega), blk_set_other h1.rb _ _ (by omega), h1.r0, h1.rs, h1.rm, h1.hbr, blk_set_other h1.cb _ _ (by omega), h1.hbc, h1.fit, h1.cap, h1.cm, h1.num⟩⟩
theorem LInv.lt {w : World} {bl : Nat} {nv : Value} {xs : List Int} (h : LInv w bl nv xs) : bl < w.heap.size := by
  rcases h with ⟨h0, rv, h1, h2⟩ | ⟨h0, br, rc, rcur, bc, off, cp, cur, h1⟩
  · exact lt_of_block h1
  · exact lt_of_block h1.lb
theorem LInv.new (w : World) : LInv (w.alloc (.cells #[.int .i64 0, .slice none 0 0, .int .i64 0] 33)) w.heap.size (.int .i64 0) [] :=
  .inl ⟨rfl, _, heap_alloc_new w _, World.ownsRow_nil _ _ _ _⟩

theorem asc_of (xs : List Int) (f : Nat → Bool) (h : xs = srt f 256) : ∀ i j, i ≤ j → j < xs.length → xs.getD i 0 ≤ xs.getD j 0 := by
  subst h; intro i j h1 h2; exact srt_mono f 256 i j h1 h2

/-- add, at the list of the marked values. -/
theorem add_mark (f : Nat → Bool) (m : Nat) (hm : m < 256) (hf : f m = false) (bl : Nat) (w : World) (p : Int) (hp : p = (m : Int) - 128) (h : LInv w bl (.int .i64 (srt f 256).length) (srt f 256)) :
    Calls Yba.prog 6 #[.pointer (some ⟨bl, 0, none⟩), .int .i16 p] w fun e w' => e = .returned (.tuple #[]) ∧ (LInv w' bl (.int .i64 (srt (put f m true) 256).length) (srt (put f m true) 256) ∧ Below bl w w') ∧ (srt (put f m true) 256).length = (srt f 256).length + 1 := by
  subst hp
  have e1 : srt f 256 = srt f m ++ tl f m := by rw [srt_part f m hm, hf]; rfl
  have e2 : srt (put f m true) 256 = srt f m ++ ((m : Int) - 128) :: tl f m := by rw [srt_put f m true hm]; rfl
  have hle := srt_len (put f m true) 256
  have hl : (srt (put f m true) 256).length = (srt f 256).length + 1 := by rw [e1, e2]; simp; omega
  rcases h with ⟨h0, hE⟩ | ⟨h0, br, rc, rcur, bc, off, cp, cur, hF⟩
  · rw [h0] at hE
    refine (add_empty ((m : Int) - 128) bl w hE).mono ?_
    rintro e w' ⟨rfl, h1, h2⟩
    refine ⟨rfl, ⟨?_, h2⟩, hl⟩
    rw [h0] at e1
    obtain ⟨ea, et⟩ := List.append_eq_nil_iff.1 e1.symm
    rw [e2, ea, et]
    exact h1
  · have hn : 0 < (srt f 256).length := List.length_pos_iff.2 h0
    have ha := asc_of _ f e1.symm
    rw [e1] at hF hn
    refine (add_full ((m : Int) - 128) (srt f m) (tl f m) bl br rc bc off cp rcur cur w hF hn (by rw [← e1]; omega) ha (srt_lt f m) (tl_gt f m) _ e2).mono ?_
    rintro e w' ⟨rfl, h1, h2⟩
    exact ⟨rfl, ⟨h1, h2⟩, hl⟩

/-- remove, at the list of the marked values. -/
theorem remove_mark (f : Nat → Bool) (m : Nat) (hm : m < 256) (hf : f m = true) (bl : Nat) (w : World) (p : Int) (hp : p = (m : Int) - 128) (h : LInv w bl (.int .i64 (srt f 256).length) (srt f 256)) :
    Calls Yba.prog 7 #[.pointer (some ⟨bl, 0, none⟩), .int .i16 p] w fun e w' => e = .returned (.tuple #[]) ∧ (LInv w' bl (.int .i64 (srt (put f m false) 256).length) (srt (put f m false) 256) ∧ Below bl w w') ∧ (srt (put f m false) 256).length + 1 = (srt f 256).length := by
  subst hp
  have e1 : srt f 256 = srt f m ++ ((m : Int) - 128) :: tl f m := by rw [srt_part f m hm, hf]; rfl
  have e2 : srt (put f m false) 256 = srt f m ++ tl f m := by rw [srt_put f m false hm]; rfl
  have hle := srt_len f 256
  have hl : (srt (put f m false) 256).length + 1 = (srt f 256).length := by rw [e1, e2]; simp; omega
  rcases h with ⟨h0, hE⟩ | ⟨h0, br, rc, rcur, bc, off, cp, cur, hF⟩
  · rw [h0] at e1; simp at e1
  · refine (remove_any ((m : Int) - 128) (srt f m) (tl f m) bl br rc bc off cp rcur cur w (srt f 256) _ e1 e2 hF hle (fun i j h1 h2 => srt_mono f 256 i j h1 h2) (srt_lt f m) (tl_gt f m)).mono ?_
    rintro e w' ⟨rfl, h1, h2⟩
    exact ⟨rfl, ⟨h1, h2⟩, hl⟩

/-- holds, at the list of the marked values. -/
theorem holds_mark (f : Nat → Bool) (v : Nat) (hv : v < 256) (bl : Nat) (w w' : World) (p : Int) (hp : p = (v : Int) - 128) (nv : Value) (h : LInv w bl nv (srt f 256)) (hq : Qt w w') :
    Calls Yba.prog 5 #[.pointer (some ⟨bl, 0, none⟩), .int .i16 p] w' fun e w'' => e = .returned (.bool (f v)) ∧ Qt w' w'' := by
  subst hp
  have hle := srt_len f 256
  have hb : ∀ (b : Bool) (Q : Prop), (b = true ↔ Q) → (Q ↔ f v = true) → b = f v := fun b Q h1 h2 => Bool.eq_iff_iff.2 (h1.trans h2)
  rcases h with ⟨h0, rv, h1, h2⟩ | ⟨h0, br, rc, rcur, bc, off, cp, cur, hF⟩
  · obtain ⟨ao, rc, rfl⟩ := own_zero h2
    have hk := hq.block bl (lt_of_block h1)
    rw [h1] at hk
    have R : RunsAt w' bl 0 0 ao rc 0 (fun _ => ⟨0, 0, 0, 0, fun _ => 0⟩) := ⟨by rw [blk_cell hk]; rfl, by rw [blk_cell hk]; rfl, fun h => by omega, fun r hr => by omega, fun r hr => by omega, fun r hr => by omega, by omega, fun r hr => by omega⟩
    refine (holds_any ((v : Int) - 128) bl 0 0 ao rc 0 _ w' R ⟨fun r hr => by omega, fun a b _ hb => by omega, fun a b _ hb => by omega⟩).mono ?_
    rintro e w'' ⟨b, rfl, h3, h4⟩
    have : b = f v := hb b _ h3 (by
      constructor
      · rintro ⟨r, hr, _⟩; omega
      · intro h5
        have := (srt_mem f 256 v hv).2 h5
        rw [h0] at this; simp at this)
    rw [this]; exact ⟨rfl, h4⟩
  · have hn : 0 < (srt f 256).length := List.length_pos_iff.2 h0
    refine (holds_any ((v : Int) - 128) bl br 0 _ rc 1 _ w' ((hF.qt hq).runs hn hle) (runX_asc bc off cp _ (fun i j h1 h2 => srt_mono f 256 i j h1 h2))).mono ?_
    rintro e w'' ⟨b, rfl, h3, h4⟩
    have : b = f v := hb b _ h3 (by
      rw [← srt_mem f 256 v hv]
      constructor
      · rintro ⟨r, hr, j, hj, e⟩
        have hj' : j < (srt f 256).length := hj
        have e' : (srt f 256).getD j 0 = (v : Int) - 128 := e
        rw [← e', int_getD _ _ hj']
        exact List.getElem_mem hj'
      · intro h5
        obtain ⟨t, ht, e⟩ := List.getElem_of_mem h5
        refine ⟨0, by omega, t, ht, ?_⟩
        show (srt f 256).getD t 0 = _
        rw [int_getD _ _ ht]; exact e)
    rw [this]; exact ⟨rfl, h4⟩

set_option maxHeartbeats 400000 in
theorem len_any (bl : Nat) (w : World) (n : Int) (h : w.cell? ⟨bl, 2, none⟩ = some (.int .i64 n)) :
    Calls Yba.prog 8 #[.pointer (some ⟨bl, 0, none⟩)] w fun e w' => e = .returned (.int .i64 n) ∧ w' = w := by
  go_enter Yba.func8, Yba.ntmps8
  go_wp2
  go_ret
  exact ⟨rfl, rfl⟩
theorem LInv.count {w : World} {bl : Nat} {nv : Value} {xs : List Int} (h : LInv w bl nv xs) : w.cell? ⟨bl, 2, none⟩ = some nv := by
  rcases h with ⟨h0, rv, h1, h2⟩ | ⟨h0, br, rc, rcur, bc, off, cp, cur, h1⟩
  · rw [blk_cell h1]; rfl
  · rw [blk_cell h1.lb]; rfl
end Go.Proofs.Ybulkcbhe
