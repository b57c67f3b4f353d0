import Derived.Test.YbulkcbheGreatDoorCon
import Derived.Test.YbulkcbheGreatDoorCls
import Derived.Test.YbulkcbheGreatDoorLsd
import Derived.Test.YbulkcbheGreatDoorBan
namespace Go.Proofs.YbulkcbheGreatDoor
open Go.RowKit
set_option linter.unusedVariables false
set_option linter.unusedSimpArgs false
def mn (lo hi : Int) : Int := if hi < lo then hi else lo
def mx (lo hi : Int) : Int := if hi < lo then lo else hi
/-- A list handed to the engine: none, or one range. -/
def LP (w : World) (oa : Option Addr) (use : Bool) (lo hi : Int) : Prop :=
  (use = false ∧ oa = none) ∨ (use = true ∧ ∃ bl br bi, oa = some ⟨bl, 0, none⟩ ∧ ListAt w bl br bi (mn lo hi * 4294967296) (mx lo hi * 4294967296))
theorem LP.nw {w w' : World} {oa : Option Addr} {use : Bool} {lo hi : Int} (h : LP w oa use lo hi) (k : Nw w w') : LP w' oa use lo hi := by
  rcases h with h | ⟨h0, bl, br, bi, h1, h2⟩
  · exact .inl h
  · exact .inr ⟨h0, bl, br, bi, h1, h2.nw k⟩
theorem LP.blk {w w' : World} {oa : Option Addr} {use : Bool} {lo hi : Int} (h : LP w oa use lo hi) (k : ∀ (b : Nat) (cs : Array Value) (ty : TypeId), ty = 114 ∨ ty = 108 ∨ ty = 22 → w.heap[b]? = some (.cells cs ty (0, 0)) → w'.heap[b]? = some (.cells cs ty (0, 0))) : LP w' oa use lo hi := by
  rcases h with h | ⟨h0, bl, br, bi, h1, h2⟩
  · exact .inl h
  · exact .inr ⟨h0, bl, br, bi, h1, k _ _ _ (.inl rfl) h2.1, k _ _ _ (.inr (.inl rfl)) h2.2.1, k _ _ _ (.inr (.inr rfl)) h2.2.2⟩
theorem contains_LP (oa : Option Addr) (use : Bool) (sl sh lo h x y z u : Int) (p4 : Addr) (w : World) (hz : Zs w p4) (hx0 : 0 ≤ x) (hx : x ≤ 255) (hy0 : 0 ≤ y) (hy : y ≤ 255) (hz0 : 0 ≤ z) (hzz : z ≤ 255) (hu0 : 0 ≤ u) (hu : u ≤ 255) (hlo : lo = 281470681743360 + x * 16777216 + y * 65536 + z * 256 + u) (hh : h = x * 16777216 + y * 65536 + z * 256 + u)
    (hl : LP w oa use sl sh) :
    Calls Ybaz.prog 31 #[.pointer oa, .agg #[.int .u64 0, .int .u64 lo, .pointer (some p4)]] w fun e w' => e = .returned (.bool (use && decide (mn sl sh ≤ h ∧ h ≤ mx sl sh))) ∧ Nw w w' := by
  rcases hl with ⟨rfl, rfl⟩ | ⟨rfl, bl, br, bi, rfl, hl⟩
  · rw [Bool.false_and]
    exact contains_nil lo p4 w
  · rw [Bool.true_and]
    have := contains_list bl br bi lo h (mn sl sh * 4294967296) (mx sl sh * 4294967296) x y z u p4 w hz hx0 hx hy0 hy hz0 hzz hu0 hu hlo hh hl
    rw [show decide (mn sl sh * 4294967296 ≤ h * 4294967296 ∧ h * 4294967296 ≤ mx sl sh * 4294967296) = decide (mn sl sh ≤ h ∧ h ≤ mx sl sh) from decide_eq_decide.2 (by omega)] at this
    exact this
end Go.Proofs.YbulkcbheGreatDoor
