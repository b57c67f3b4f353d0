import Derived.Test.YbulkcbigFmtWays
import Derived.Test.YbulkcbigFmtCards
import Derived.Test.YbulkcbigFmtTie
import Derived.ProofKit
import Derived.Stop.JoinedAt
import Derived.Stop.JoinedTold
import Derived.Stop.Texts
import Derived.Stop.ErrReads
import Derived.Stop.LaidErr
import Derived.ShutString
import Derived.OpenShut
import Derived.ChangeVars
import Derived.SevenToldRow
import Derived.SevenTiedAt
namespace Go.Proofs.YbulkcbigFmt
open Go.ChangeShapes Go.WideShapes Go.ChangeAt Go.RowKit Go.Kit
open Go.Extern.Stop Go.Stop Go.Extern

theorem Ybaf.own : ownKnob Ybaf.prog.godebug = none := by kernel_rfl
theorem Ybaf.laidOut : laidOutB Ybaf.pinned.checked.prog = true := by kernel_rfl
theorem Ybaf.stops : Ybaf.pinned.checked.prog.stops = ["fmt.Sprintf"] := by kernel_rfl
theorem Ybaf.stopKnobs : Ybaf.pinned.checked.prog.stopKnobs = [] := by kernel_rfl
theorem Ybaf.quiet (os : Os) : Stop.quiet Ybaf.pinned.checked.prog os := by
  intro k hk
  rw [Ybaf.stopKnobs] at hk
  cases hk
/-- The listed variable's name, as the given rows have it. -/
def vn : String := Rows.lawS3880BNamesSpec.vars.headD ""
theorem gN : Ybaf.prog.globalNamed vn = some 0 := by kernel_rfl
theorem gNType : (Ybaf.prog.globals[0]?).map (·.type) = some 28 := by kernel_rfl
theorem cells28 : Ybaf.prog.cellsOf 28 = 4 := by kernel_rfl
theorem cells9 : Ybaf.prog.cellsOf 9 = 1 := by kernel_rfl

def cells4 : Array Value := #[.string (nameB 0), .string (nameB 1), .string (nameB 2), .string (nameB 3)]

theorem str_of_trod {H : Type} {enc : TypeId × Value → H} {w : World} {base : Nat} {sp : Nat → Bool} {held : Bool} {fuel : Nat} {c : Value} {y : DataW H × List MemPlace}
    (h : DataW.trod enc Ybaf.prog w base sp held fuel 9 [c] = some y) : ∃ s : ByteArray, c = .string s ∧ y = (.lit (.string s.data.toList), []) := by
  obtain ⟨s, hc, hy, _⟩ := DataW.trod_string Ybaf.underlying9 h
  simp only [List.cons.injEq, and_true] at hc
  exact ⟨s, hc, hy⟩
theorem ba_of_list {s : ByteArray} {l : List UInt8} (h : s.data.toList = l) : s = ⟨l.toArray⟩ := by subst h; cases s; rfl

theorem cells_of_laid {W : World} (h : laidMet Ybaf.prog Rows.lawS3880BNamesRow.laid W) : W.var? Ybaf.prog vn = some cells4 := by
  obtain ⟨ps, ⟨g, t, cs, fuel, p, q, hg, ht, hvar, hd, _, _⟩, _⟩ := h
  obtain rfl := Option.some.inj (gN.symm.trans hg)
  obtain rfl := Option.some.inj (gNType.symm.trans ht)
  refine Eq.trans hvar ?_
  congr 1
  obtain ⟨l⟩ := cs
  cases fuel with
  | zero => simp [DataW.trod] at hd
  | succ fuel =>
    simp only [DataW.trod, Ybaf.underlying28, cells28, cells9] at hd
    split at hd
    · rename_i hl
      obtain ⟨c0, c1, c2, c3, rfl⟩ : ∃ c0 c1 c2 c3, l = [c0, c1, c2, c3] := by
        match l, hl with
        | [a, b, c, d], _ => exact ⟨a, b, c, d, rfl⟩
      have e : List.range 4 = [0, 1, 2, 3] := rfl
      rw [e] at hd
      simp only [Option.map_eq_some_iff, List.mapM_cons, List.mapM_nil, Option.bind_eq_bind, Option.bind_eq_some_iff, Option.pure_def, Option.some.injEq] at hd
      obtain ⟨xs, ⟨y0, h0, _, ⟨y1, h1, _, ⟨y2, h2, _, ⟨y3, h3, _, rfl, rfl⟩, rfl⟩, rfl⟩, rfl⟩, hx⟩ := hd
      obtain ⟨n0, rfl, rfl⟩ := str_of_trod h0
      obtain ⟨n1, rfl, rfl⟩ := str_of_trod h1
      obtain ⟨n2, rfl, rfl⟩ := str_of_trod h2
      obtain ⟨n3, rfl, rfl⟩ := str_of_trod h3
      simp [Rows.laid_example_com_backref_backref_levelNames] at hx
      obtain ⟨⟨e0, e1, e2, e3⟩, _⟩ := hx
      rw [ba_of_list e0, ba_of_list e1, ba_of_list e2, ba_of_list e3]
      rfl
    · cases hd

/-- A world with the listed variable laid. -/
def lay (w : World) : World :=
  { w with heap := w.heap.modify 0 fun
      | .cells _ t frozen => .cells cells4 t frozen
      | o => o }
theorem laid_met (os : Os) (args : Array Value) : laidMet Ybaf.prog Rows.lawS3880BNamesRow.laid ((lay (World.holding Ybaf.prog os ⟨#[], #[], []⟩)).forCall (fun _ _ => 0) ⟨#[], args, []⟩).memory :=
  laidMet_of_run (ps := [.cell 0 0, .cell 0 1, .cell 0 2, .cell 0 3]) 8 (by kernel_rfl) (by kernel_rfl) (by kernel_rfl)

/-- What the variable reads as hangs on its cells alone. -/
theorem trod_indep {H : Type} {enc : TypeId × Value → H} {W W' : World} {sp sp' : Nat → Bool} (fuel : Nat) :
    DataW.trod enc Ybaf.prog W 0 sp true fuel 28 cells4.toList = DataW.trod enc Ybaf.prog W' 0 sp' true fuel 28 cells4.toList := by
  cases fuel with
  | zero => rfl
  | succ fuel =>
    cases fuel with
    | zero =>
      simp only [DataW.trod, Ybaf.underlying28, cells28]
    | succ fuel =>
      simp only [DataW.trod, Ybaf.underlying28, Ybaf.underlying9, cells28, cells9, cells4]
      rfl

theorem cells_at {W : World} (hvar : W.var? Ybaf.prog vn = some cells4) : ∀ i : Int, 0 ≤ i → i < 4 → W.cell? ⟨0, i.toNat, none⟩ = some (.string (nameB i)) := by
  intro i h0 h4
  have k0 : W.cell? ⟨0, 0, none⟩ = some (.string (nameB 0)) := by simpa [cells4] using World.var?_cell gN hvar 0
  have k1 : W.cell? ⟨0, 1, none⟩ = some (.string (nameB 1)) := by simpa [cells4] using World.var?_cell gN hvar 1
  have k2 : W.cell? ⟨0, 2, none⟩ = some (.string (nameB 2)) := by simpa [cells4] using World.var?_cell gN hvar 2
  have k3 : W.cell? ⟨0, 3, none⟩ = some (.string (nameB 3)) := by simpa [cells4] using World.var?_cell gN hvar 3
  rcases (show i = 0 ∨ i = 1 ∨ i = 2 ∨ i = 3 by omega) with rfl | rfl | rfl | rfl
  · exact k0
  · exact k1
  · exact k2
  · exact k3

theorem var_below {W W' : World} (h : Below W.heap.size W W') (hv : W.var? Ybaf.prog vn = some cells4) : W'.var? Ybaf.prog vn = some cells4 := by
  have hc : W.cell? ⟨0, 0, none⟩ = some (.string (nameB 0)) := by simpa [cells4] using World.var?_cell gN hv 0
  have hlt : 0 < W.heap.size := World.block_lt_of_cell? _ _ hc
  unfold World.var? at hv ⊢
  simp only [gN, Option.bind_some] at hv ⊢
  rw [h.block 0 hlt]
  exact hv

end Go.Proofs.YbulkcbigFmt
