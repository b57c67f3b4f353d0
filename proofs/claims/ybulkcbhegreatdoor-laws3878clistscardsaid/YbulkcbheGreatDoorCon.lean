import Derived.Test.YbulkcbheGreatDoorNum
import Derived.Test.YbulkcbheGreatDoorHold
namespace Go.Proofs.YbulkcbheGreatDoor
open Go.RowKit
set_option linter.unusedVariables false
set_option linter.unusedSimpArgs false
theorem nb {w w' : World} {o : Obj} (g : Nw (w.alloc o) w') : w'.heap[w.heap.size]? = some o := blk_nw (blk_new rfl) g
theorem nbd {w w' : World} {o : Obj} (g : Nw ((w.alloc o).drew) w') : w'.heap[w.heap.size]? = some o := blk_nw (blk_drew (blk_new rfl)) g
theorem set_ge {w a : World} (h : Nw w a) {b i : Nat} (hb : w.heap.size ≤ b) (v : Value) : Nw w (a.setCell ⟨b, i, none⟩ v) := h.set hb v
set_option maxRecDepth 100000 in
set_option maxHeartbeats 1600000 in
theorem contains_list (bl br bi : Nat) (lo h f l x y z u : Int) (p4 : Addr) (w : World) (hz : Zs w p4) (hx0 : 0 ≤ x) (hx : x ≤ 255) (hy0 : 0 ≤ y) (hy : y ≤ 255) (hz0 : 0 ≤ z) (hzz : z ≤ 255) (hu0 : 0 ≤ u) (hu : u ≤ 255) (hlo : lo = 281470681743360 + x * 16777216 + y * 65536 + z * 256 + u) (hh : h = x * 16777216 + y * 65536 + z * 256 + u)
    (hl : ListAt w bl br bi f l) :
    Calls Ybaz.prog 31 #[.pointer (some ⟨bl, 0, none⟩), .agg #[.int .u64 0, .int .u64 lo, .pointer (some p4)]] w fun e w' => e = .returned (.bool (decide (f ≤ h * 4294967296 ∧ h * 4294967296 ≤ l))) ∧ Nw w w' := by
  have HF : Hid (∀ w', Nw w w' → Calls Ybaz.prog 41 #[.pointer (some ⟨bl, 0, none⟩), .agg #[.int .u64 0, .int .u64 lo, .pointer (some p4)]] w' fun e w'' => e = .returned (.pointer (some ⟨bl, 0, none⟩)) ∧ Nw w' w'') := fun w' k => family_any bl lo p4 w' (hz.nw k)
  have HM : Hid (∀ w', Nw w w' → Calls Ybaz.prog 43 #[.agg #[.int .u64 0, .int .u64 lo, .pointer (some p4)]] w' fun e w'' => e = .returned (.agg #[.int .u64 (h * 4294967296), .int .u64 0]) ∧ Nw w' w'') := fun w' k => numberOf_any lo h x y z u p4 w' (hz.nw k) hx0 hx hy0 hy hz0 hzz hu0 hu hlo hh
  have HH : Hid (∀ w', Nw w w' → Calls Ybaz.prog 42 #[.pointer (some ⟨bl, 0, none⟩), .agg #[.int .u64 (h * 4294967296), .int .u64 0]] w' fun e w'' => ∃ f0 f1 l0 l1 : Int, e = .returned (.tuple #[.agg #[.int .u64 f0, .int .u64 f1, .int .u64 l0, .int .u64 l1], .bool (decide (f ≤ h * 4294967296 ∧ h * 4294967296 ≤ l))]) ∧ Nw w' w'') := fun w' k => holding_any bl br bi f l (h * 4294967296) w' (hl.nw k) (by omega) (by omega)
  have HZ : Hid (Zs w p4) := hz
  clear hz hl hlo hh
  generalize decide (f ≤ h * 4294967296 ∧ h * 4294967296 ≤ l) = bb at HH ⊢
  generalize h * 4294967296 = n at HM HH
  go_enter Ybaz.func31, Ybaz.ntmps31
  go_wp2_with fail
  refine (isValid_any lo p4 _ (HZ.out.nw ((Nw.refl _).alloc _))).mono ?_
  rintro e w1 ⟨rfl, hb⟩
  have N1 : Hid (Nw w w1) := ((Nw.refl _).alloc _).trans hb
  have B1 : Hid (w1.heap[w.heap.size]? = some (.cells #[.int .u64 0, .int .u64 lo, .pointer (some p4)] 74 (0, 0))) := blk_nw (blk_new rfl) hb
  clear hb
  have k0 := blk_cell B1.out
  go_wp2_with fail
  refine (unmap_any lo p4 _ (HZ.out.nw N1.out)).mono ?_
  rintro e w2 ⟨rfl, hb⟩
  have N2 : Hid (Nw w w2) := N1.out.trans hb
  have B2 : Hid (w2.heap[w.heap.size]? = some (.cells #[.int .u64 0, .int .u64 lo, .pointer (some p4)] 74 (0, 0))) := blk_nw B1.out hb
  clear hb k0 B1 N1
  have k0 := blk_cell B2.out
  have f0 := blk_free B2.out
  go_wp2_with fail
  obtain ⟨w3, hw3⟩ : ∃ w3, w3 = ((w2.setCell ⟨w.heap.size, 0, none⟩ (.int .u64 0)).setCell ⟨w.heap.size, 1, none⟩ (.int .u64 lo)).setCell ⟨w.heap.size, 2, none⟩ (.pointer (some p4)) := ⟨_, rfl⟩
  have N3 : Hid (Nw w w3) := hw3 ▸ (((N2.out.set (Nat.le_refl _) _).set (Nat.le_refl _) _).set (Nat.le_refl _) _)
  have B3 : Hid (w3.heap[w.heap.size]? = some (.cells #[.int .u64 0, .int .u64 lo, .pointer (some p4)] 74 (0, 0))) := hw3 ▸ blk_set (blk_set (blk_set B2.out 0 _) 1 _) 2 _
  simp only [← hw3]
  clear hw3 k0 f0 B2 N2
  have k0 := fun (w' : World) (h : Nw w3 w') (i : Nat) => blk_cell (blk_nw B3.out h) i
  have r3 := Nw.refl w3
  go_region_held3 (fun wx => Nw w3 wx) (first | assumption | exact Nw.drew r3 | (apply Nw.alloc; assumption) | (apply Nw.alloc; exact Nw.drew r3) | (apply Nw.drew; apply Nw.alloc; exact r3) | (refine set_ge (set_ge (set_ge (set_ge (by first | assumption | (apply Nw.alloc; assumption)) ?_ _) ?_ _) ?_ _) ?_ _ <;> first | assumption | exact Nat.le_refl _ | exact hk.size | exact hk2.size | exact hk3.size)) (first
    | (go_at_call 41; refine (HF.out _ (N3.out.trans ?_)).mono ?_; (first | assumption | exact Nw.drew r3 | exact (Nw.alloc r3 _).drew | (apply Nw.alloc; assumption)); rintro e wm ⟨rfl, hb⟩; have hk : Nw w3 wm := (by first | exact Nw.trans (by assumption) hb | exact Nw.trans (Nw.drew r3) hb | exact Nw.trans (Nw.alloc r3 _).drew hb | exact Nw.trans (Nw.alloc (by assumption) _) hb); (first | (have ab := blk_nw ab hb; have ac := blk_cell ab; have af := blk_free ab) | (have ab := nbd hb; have ac := blk_cell ab; have af := blk_free ab) | (have ab := nb hb; have ac := blk_cell ab; have af := blk_free ab) | skip); clear hb)
    | (go_at_call 43; refine (HM.out _ (N3.out.trans ?_)).mono ?_; (first | assumption | exact Nw.drew r3 | exact (Nw.alloc r3 _).drew | (apply Nw.alloc; assumption)); rintro e wm ⟨rfl, hb⟩; have hk2 : Nw w3 wm := (by first | exact Nw.trans (by assumption) hb | exact Nw.trans (Nw.drew r3) hb | exact Nw.trans (Nw.alloc r3 _).drew hb | exact Nw.trans (Nw.alloc (by assumption) _) hb); (first | (have ab := blk_nw ab hb; have ac := blk_cell ab; have af := blk_free ab) | (have ab := nbd hb; have ac := blk_cell ab; have af := blk_free ab) | (have ab := nb hb; have ac := blk_cell ab; have af := blk_free ab) | skip); clear hb)
    | (go_at_call 42; refine (HH.out _ (N3.out.trans ?_)).mono ?_; (first | assumption | exact Nw.drew r3 | exact (Nw.alloc r3 _).drew | (apply Nw.alloc; assumption)); rintro e wm ⟨f0, f1, l0, l1, rfl, hb⟩; have hk3 : Nw w3 wm := (by first | exact Nw.trans (by assumption) hb | exact Nw.trans (Nw.drew r3) hb | exact Nw.trans (Nw.alloc r3 _).drew hb | exact Nw.trans (Nw.alloc (by assumption) _) hb); (first | (have ab := blk_nw ab hb; have ac := blk_cell ab; have af := blk_free ab) | (have ab := nbd hb; have ac := blk_cell ab; have af := blk_free ab) | (have ab := nb hb; have ac := blk_cell ab; have af := blk_free ab) | skip); clear hb))
  all_goals (go_wp2_with fail; go_ret; exact ⟨rfl, N3.out.trans (by assumption)⟩)
end Go.Proofs.YbulkcbheGreatDoor
