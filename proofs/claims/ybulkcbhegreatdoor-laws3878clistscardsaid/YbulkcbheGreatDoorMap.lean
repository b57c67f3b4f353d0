import Derived.Test.YbulkcbheGreatDoorTime
import Derived.ChangeKeysEq
import Derived.ProofKit
namespace Go.Proofs.YbulkcbheGreatDoor
open Go.RowKit
set_option linter.unusedVariables false
set_option linter.unusedSimpArgs false
theorem info5 : (Ybaz.prog.info? 5).map (fun i => (i.zero, i.size, i.bytes)) = some (some (.int .u8 0), 1, 1) := by kernel_rfl
theorem cells5 : Ybaz.prog.cellsOf 5 = 1 := by kernel_rfl
def kc (x y z u : Int) : Array Value := #[.int .u8 0, .int .u8 0, .int .u8 0, .int .u8 0, .int .u8 0, .int .u8 0, .int .u8 0, .int .u8 0, .int .u8 0, .int .u8 0, .int .u8 255, .int .u8 255, .int .u8 x, .int .u8 y, .int .u8 z, .int .u8 u]
theorem part5 (cs : Array Value) (off : Nat) (v : Value) (h : cs[off]? = some v) (w : World) : (part 5 cs off).run Ybaz.prog w = .ok v w := by
  obtain ⟨i0, hi, hz0, hz1, hz2⟩ := info_parts info5
  have hu := @Ybaz.underlying5
  simp [part, sizeOf, typeInfo, hi, hz1, run_underlying hu, h]
theorem eqStep (i : Nat) (is : List Nat) (xs ys : Array Value) (a b : Int) (hx : xs[i]? = some (.int .u8 a)) (hy : ys[i]? = some (.int .u8 b)) (w : World) :
    (Op.eqItems 9999 5 1 xs ys (i :: is)).run Ybaz.prog w = if a = b then (Op.eqItems 9999 5 1 xs ys is).run Ybaz.prog w else .ok false w := by
  have h1 := part5 xs i _ hx w
  have h2 := part5 ys i _ hy w
  have h3 := run_equalIn_int (P := Ybaz.prog) w 9998 5 .u8 .u8 a b Ybaz.underlying5
  simp only [Op.eqItems, Nat.mul_one, Sem.run_bind, h1, h2, Result.andThen_ok, h3]
  by_cases h : a = b
  · simp [h]
  · simp [h]
theorem eqKey (x y z u u' : Int) (w : World) : (Op.equal 30 (.agg (kc x y z u)) (.agg (kc x y z u'))).run Ybaz.prog w = .ok (decide (u = u')) w := by
  obtain ⟨i0, hi, hz0, hz1, hz2⟩ := info_parts info5
  unfold Op.equal Op.maxDepth
  rw [show (10000 : Nat) = 9999 + 1 from rfl, run_equalIn_array w 9999 _ _ Ybaz.underlying30 hi, cells5]
  rw [show List.range 16 = [0, 1, 2, 3, 4, 5, 6, 7, 8, 9, 10, 11, 12, 13, 14, 15] from rfl]
  rw [eqStep 0 _ _ _ 0 0 rfl rfl, if_pos rfl, eqStep 1 _ _ _ 0 0 rfl rfl, if_pos rfl, eqStep 2 _ _ _ 0 0 rfl rfl, if_pos rfl, eqStep 3 _ _ _ 0 0 rfl rfl, if_pos rfl, eqStep 4 _ _ _ 0 0 rfl rfl, if_pos rfl, eqStep 5 _ _ _ 0 0 rfl rfl, if_pos rfl, eqStep 6 _ _ _ 0 0 rfl rfl, if_pos rfl, eqStep 7 _ _ _ 0 0 rfl rfl, if_pos rfl, eqStep 8 _ _ _ 0 0 rfl rfl, if_pos rfl, eqStep 9 _ _ _ 0 0 rfl rfl, if_pos rfl, eqStep 10 _ _ _ 255 255 rfl rfl, if_pos rfl, eqStep 11 _ _ _ 255 255 rfl rfl, if_pos rfl, eqStep 12 _ _ _ x x rfl rfl, if_pos rfl, eqStep 13 _ _ _ y y rfl rfl, if_pos rfl, eqStep 14 _ _ _ z z rfl rfl, if_pos rfl, eqStep 15 _ _ _ u u' rfl rfl]
  by_cases h : u = u'
  · simp [h, Op.eqItems]
  · simp [h]

/-! The map keyed by sixteen bytes: none, or one entry. -/
theorem checkKc (b : Bool) (x y z u : Int) (w : World) : (Instr.checkKey b 10000 30 (.agg (kc x y z u))).run Ybaz.prog w = .ok () w := by kernel_rfl
theorem findNone (x y z u : Int) (w : World) : (Instr.findKey 30 (.agg (kc x y z u)) []).run Ybaz.prog w = .ok none w := by kernel_rfl
theorem findOne (x y z u u' : Int) (v : Value) (born : Nat) (w : World) : (Instr.findKey 30 (.agg (kc x y z u)) [⟨.agg (kc x y z u'), v, born⟩]).run Ybaz.prog w = .ok (if u = u' then some (0, v) else none) w := by
  have h := eqKey x y z u u' w
  have hu := @Ybaz.underlying30
  simp only [Instr.findKey, Sem.run_bind, run_underlying hu, Result.andThen_ok, Instr.findNow, Instr.sameNow, Instr.findAsking, h]
  by_cases e : u = u' <;> simp [e]

theorem zero79 (w : World) : (zeroValue 79).run Ybaz.prog w = .ok (.pointer none) w := by kernel_rfl
theorem zero28 (w : World) : (zeroValue 28).run Ybaz.prog w = .ok (.pointer none) w := by kernel_rfl
theorem look56_none (bm c : Nat) (x y z u : Int) (w : World) (h : w.heap[bm]? = some (.map #[] c)) : (Instr.lookup 56 (.map (some bm)) (.agg (kc x y z u)) false).run Ybaz.prog w = .ok (.pointer none) w := by
  have hu := @Ybaz.underlying56
  simp [Instr.lookup, run_underlying hu, MapKept.run_getObj_map h, Result.andThen, checkKc, findNone, zero79]
theorem look44_none (bm c : Nat) (x y z u : Int) (w : World) (h : w.heap[bm]? = some (.map #[] c)) : (Instr.lookup 44 (.map (some bm)) (.agg (kc x y z u)) false).run Ybaz.prog w = .ok (.pointer none) w := by
  have hu := @Ybaz.underlying44
  simp [Instr.lookup, run_underlying hu, MapKept.run_getObj_map h, Result.andThen, checkKc, findNone, zero28]
theorem look56_one (bm c born : Nat) (x y z u u' : Int) (v : Value) (w : World) (h : w.heap[bm]? = some (.map #[⟨.agg (kc x y z u'), v, born⟩] c)) : (Instr.lookup 56 (.map (some bm)) (.agg (kc x y z u)) false).run Ybaz.prog w = .ok (if u = u' then v else .pointer none) w := by
  have hu := @Ybaz.underlying56
  simp [Instr.lookup, run_underlying hu, MapKept.run_getObj_map h, Result.andThen, checkKc, findOne]
  by_cases e : u = u' <;> simp [e, zero79]
theorem look44_one (bm c born : Nat) (x y z u u' : Int) (v : Value) (w : World) (h : w.heap[bm]? = some (.map #[⟨.agg (kc x y z u'), v, born⟩] c)) : (Instr.lookup 44 (.map (some bm)) (.agg (kc x y z u)) false).run Ybaz.prog w = .ok (if u = u' then v else .pointer none) w := by
  have hu := @Ybaz.underlying44
  simp [Instr.lookup, run_underlying hu, MapKept.run_getObj_map h, Result.andThen, checkKc, findOne]
  by_cases e : u = u' <;> simp [e, zero28]
theorem upd56 (bm : Nat) (x y z u : Int) (v : Value) (w : World) (h : w.heap[bm]? = some (.map #[] 0)) :
    (Instr.mapUpdate 56 (.map (some bm)) (.agg (kc x y z u)) v).run Ybaz.prog w = .ok () { w with heap := w.heap.setIfInBounds bm (.map #[⟨.agg (kc x y z u), v, 0⟩] 1) } := by
  have hu := @Ybaz.underlying56
  simp [Instr.mapUpdate, run_underlying hu, MapKept.run_getObj_map h, MapKept.run_setObj_map _ h, Result.andThen, checkKc, findNone]
end Go.Proofs.YbulkcbheGreatDoor
