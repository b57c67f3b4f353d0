/-
  No cell of these rows narrows 'for every input' (looked for: loops, veiled, ifaces, maps, wideKeys, modest, calm, conditions, laid).
  DERIVED. THE GIVEN ROWS OF THIS SEAT. 2 by the template 'for every input the law returns true; each argument reads behind the call as it read before'; 0 by the template 'total and deterministic' (their statements: YbulkcbigTotals.lean).
  GIVEN WITH THE SEED: the statements are not yours to turn. If you find one false, say at which input.
  Laid BY PROGRAM, IN A SANDBOX (cutbox-rows.mjs): the forced cells as the released guide's own fill.sh prints them over the translation ebe6a34afecbd0db… (all of the seat's roots in one cut). By AI agents, Wed Nov 11 2026. No macro, syntax, notation, axiom, sorry.
-/
import Derived.Test.YbulkcbigChecked
import GoSem.Claim
import GoSem.ClaimJoined
import GoSem.ClaimMapViews
import Derived.JoinedTies
import Derived.KernelRfl
namespace Go.Proofs.Ybulkcbig
/- THE CELL 'sum', in the pinned program and in every row, IS THE sha256 OF THE DUMP (.gsa) THAT YbulkcbigProg.lean LOADS. Nothing in Lean hashes anything: it is a label: what it is worth is what the hold of that sum in a sandbox is worth. -/
noncomputable def Yba.pinned : Pinned := { name := "ybulkcbig", sum := "ebe6a34afecbd0dbdc9c658c43f5b7c811cd758b989086954d02e5e12f24af79", checked := Yba.checked }
namespace Rows
def none {H : Type} : Left H := { results := [], args := [] }

/-- 'backref.LawS3880AFill': WHATEVER THE INPUT: true; the input reads as it did. -/
def lawS3880AFillSpec : ChangeSpec := { name := "lawS3880AFill", fn := fun _ => fun
  | [d1, d2, d3] => { results := [.lit (.bool true)], args := [d1, d2, d3] }
  | _ => none }
def lawS3880AFillRow : OpenClaim := { program := "ybulkcbig", sum := "ebe6a34afecbd0dbdc9c658c43f5b7c811cd758b989086954d02e5e12f24af79", func := "example.com/backref/backref.LawS3880AFill", spec := "lawS3880AFill", unfollowed := true, recurses := true, apart := false }
def LawS3880AFillSaid : Prop := lawS3880AFillRow.holds Yba.pinned (OpenSpec.ofChange lawS3880AFillSpec)

/-- ITS FALSE NEIGHBOUR: 'it returns false'. Refute it at one input. -/
def lawS3880AFillWrong : ChangeSpec := { name := "lawS3880AFill", fn := fun _ => fun
  | [d1, d2, d3] => { results := [.lit (.bool false)], args := [d1, d2, d3] }
  | _ => none }
def LawS3880AFillWrongFalsely : Prop := lawS3880AFillRow.holds Yba.pinned (OpenSpec.ofChange lawS3880AFillWrong)

/-- 'backref.LawS3880CModel': WHATEVER THE INPUT: true; the input reads as it did. -/
def lawS3880CModelSpec : ChangeSpec := { name := "lawS3880CModel", fn := fun _ => fun
  | [d1, d2, d3, d4, d5, d6] => { results := [.lit (.bool true)], args := [d1, d2, d3, d4, d5, d6] }
  | _ => none }
def lawS3880CModelRow : OpenClaim := { program := "ybulkcbig", sum := "ebe6a34afecbd0dbdc9c658c43f5b7c811cd758b989086954d02e5e12f24af79", func := "example.com/backref/backref.LawS3880CModel", spec := "lawS3880CModel", named := ["encoding/binary.LittleEndian"], apart := false }
def LawS3880CModelSaid : Prop := lawS3880CModelRow.holds Yba.pinned (OpenSpec.ofChange lawS3880CModelSpec)

/-- ITS FALSE NEIGHBOUR: 'it returns false'. Refute it at one input. -/
def lawS3880CModelWrong : ChangeSpec := { name := "lawS3880CModel", fn := fun _ => fun
  | [d1, d2, d3, d4, d5, d6] => { results := [.lit (.bool false)], args := [d1, d2, d3, d4, d5, d6] }
  | _ => none }
def LawS3880CModelWrongFalsely : Prop := lawS3880CModelRow.holds Yba.pinned (OpenSpec.ofChange lawS3880CModelWrong)

end Rows
end Go.Proofs.Ybulkcbig
