import Derived.Test.YbulkcbheGreatDoorNet
import Derived.Test.YbulkcbheGreatDoorTie
import Derived.Test.YbulkcbheGreatDoorCards
import Derived.ProofKit
import Derived.LaidMore
import Derived.OpenShut
import Derived.Stop.Joined
namespace Go.Proofs.YbulkcbheGreatDoor
open Go.ChangeShapes Go.WideShapes Go.ChangeAt Go.RowKit
set_option linter.unusedVariables false

theorem own : ownKnob Ybaz.prog.godebug = none := by kernel_rfl
theorem laidOut : laidOutB Ybaz.prog = true := by kernel_rfl
/-- The six listed variables, as the given rows have them. -/
def laid6 : List (String × DataW Unit) := Rows.lawS3878CBanRow.laid
theorem gZ4 : Ybaz.prog.globalNamed ((laid6.map (·.1)).getD 3 "") = some 0 := by kernel_rfl
theorem gZ0 : Ybaz.prog.globalNamed ((laid6.map (·.1)).getD 5 "") = some 1 := by kernel_rfl
theorem tZ4 : (Ybaz.prog.globals[0]?).map (·.type) = some 72 := by kernel_rfl
theorem tZ0 : (Ybaz.prog.globals[1]?).map (·.type) = some 72 := by kernel_rfl
theorem cells72 : Ybaz.prog.cellsOf 72 = 1 := by kernel_rfl
theorem cells70 : Ybaz.prog.cellsOf 70 = 1 := by kernel_rfl
/-- A handle that reads as one pointer. -/
theorem handle_of_trod {H : Type} {enc : TypeId × Value → H} {W : World} {sp : Nat → Bool} {held : Bool} {fuel : Nat} {cs : List Value} {d : DataW H} {p : List MemPlace}
    (h : DataW.trod enc Ybaz.prog W 0 sp held fuel 72 cs = some (.agg [d], p)) : (d = .nil ∧ cs = [.pointer none]) ∨ ∃ a y, d = .ptr y ∧ cs = [.pointer (some a)] := by
  obtain ⟨xs, n, rfl, hx, hl, hn, hel⟩ := DataW.trod_struct Ybaz.underlying72 h
  rw [cells72] at hl
  obtain ⟨c, rfl⟩ := List.length_eq_one_iff.1 hl
  obtain ⟨x0, rfl⟩ := List.length_eq_one_iff.1 hn
  have h0 : DataW.trod enc Ybaz.prog W 0 sp held n 70 (([c].drop 0).take (Ybaz.prog.cellsOf 70)) = some x0 := hel 0 _ rfl
  rw [cells70] at h0
  have h1 : DataW.trod enc Ybaz.prog W 0 sp held n 70 [c] = some x0 := h0
  clear h0 hel h
  simp only [List.map_cons, List.map_nil, Prod.mk.injEq, DataW.agg.injEq, List.cons.injEq, and_true] at hx
  rcases DataW.trod_pointer Ybaz.underlying70 h1 with ⟨hc, rfl⟩ | ⟨a, cs', y, m, _, hc, rfl, _, _⟩
  · exact .inl ⟨hx.1, hc⟩
  · exact .inr ⟨a, y.1, hx.1, hc⟩
/-- A table's cells, off the given datum. -/
def tab : DataW Unit → Array Value
  | .agg l => (l.map fun
      | .lit (.int k n) => .int k n
      | _ => .bool false).toArray
  | _ => #[]
def setc (cs : Array Value) : Obj → Obj
  | .cells _ t frozen => .cells cs t frozen
  | o => o
/-- A world with the six listed variables laid. -/
def lay (w : World) : World :=
  { w with heap := (((((((w.heap.modify 5 (setc (tab Rows.laid_math_bits_deBruijn32tab))).modify 6 (setc (tab Rows.laid_math_bits_deBruijn64tab))).modify 4 (setc (tab Rows.laid_internal_strconv_uint64pow10))).modify 0 (setc #[.pointer (some ⟨w.heap.size, 0, none⟩)])).modify 3 (setc #[.pointer (some ⟨w.heap.size + 1, 0, none⟩)])).push (.cells #[.bool false, .string ⟨#[]⟩] 213 (0, 0))).push (.cells #[.bool true, .string ⟨#[]⟩] 213 (0, 0))) }
theorem lay_met (os : Os) (args : Array Value) : laidMetH Ybaz.prog laid6 ((lay (World.holding Ybaz.prog os ⟨#[], #[], []⟩)).forCall (fun _ _ => 0) ⟨#[], args, []⟩).memory := by
  rw [MakeChecks.laidMetH_plain _ _ _ (by kernel_rfl)]
  exact laidMet_of_run' 8 (by kernel_rfl) (by kernel_rfl)
theorem lay_shaped (os : Os) (args : Array Value) : ((lay (World.holding Ybaz.prog os ⟨#[], #[], []⟩)).forCall (fun _ _ => 0) ⟨#[], args, []⟩).Shaped Ybaz.checked.prog :=
  World.shaped_of_RefB (by kernel_rfl) (by kernel_rfl)

theorem of_laid {W : World} (h : laidMetH Ybaz.prog laid6 W) : ∃ p4, Zs W p4 := by
  rw [MakeChecks.laidMetH_plain _ _ _ (by kernel_rfl)] at h
  obtain ⟨ps, ⟨_, _, _, _, _, _, _, _, _, _, ⟨_, _, _, _, _, _, _, _, _, _, ⟨_, _, _, _, _, _, _, _, _, _, ⟨g3, t3, cs3, f3, p3, q3, hg3, ht3, hv3, hd3, ⟨_, _, _, _, _, _, _, _, _, _, ⟨g5, t5, cs5, f5, p5, q5, hg5, ht5, hv5, hd5, _, _⟩, _⟩, _⟩, _⟩, _⟩, _⟩, _, _⟩ := h
  obtain rfl := Option.some.inj (gZ4.symm.trans hg3)
  obtain rfl := Option.some.inj (gZ0.symm.trans hg5)
  obtain rfl := Option.some.inj (tZ4.symm.trans ht3)
  obtain rfl := Option.some.inj (tZ0.symm.trans ht5)
  rcases handle_of_trod hd3 with ⟨h, _⟩ | ⟨a, y, _, hc3⟩
  · cases h
  obtain ⟨_, hc5⟩ : True ∧ cs5.toList = [.pointer none] := by
    rcases handle_of_trod hd5 with ⟨_, hc5⟩ | ⟨a', y', h, _⟩
    · exact ⟨trivial, hc5⟩
    · cases h
  have k0 := World.var?_cell hg3 hv3 0
  have k1 := World.var?_cell hg5 hv5 0
  rw [Array.eq_one_of_toList hc3] at k0
  rw [Array.eq_one_of_toList hc5] at k1
  have z4 : W.cell? ⟨0, 0, none⟩ = some (.pointer (some a)) := by simpa using k0
  have z0 : W.cell? ⟨1, 0, none⟩ = some (.pointer none) := by simpa using k1
  exact ⟨a, ⟨z4, z0, World.block_lt_of_cell? _ _ z0⟩⟩
end Go.Proofs.YbulkcbheGreatDoor
