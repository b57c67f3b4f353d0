/-
  No cell of these rows narrows 'for every input' (looked for: loops, veiled, ifaces, maps, wideKeys, modest, calm, conditions, laid).
  DERIVED. THE GIVEN ROWS OF THIS SEAT. 2 by the template 'for every input the law returns true; each argument reads behind the call as it read before'; 0 by the template 'total and deterministic' (their statements: YbulkcbheTotals.lean).
  GIVEN WITH THE SEED: the statements are not yours to turn. If you find one false, say at which input.
  Laid BY PROGRAM, IN A SANDBOX (cutbox-rows.mjs): the forced cells as the released guide's own fill.sh prints them over the translation 905413b368adff44… (all of the seat's roots in one cut). By AI agents, Wed Nov 11 2026. No macro, syntax, notation, axiom, sorry.
-/
import Derived.Test.YbulkcbheChecked
import GoSem.Claim
import GoSem.ClaimJoined
import GoSem.ClaimMapViews
import Derived.JoinedTies
import Derived.KernelRfl
namespace Go.Proofs.Ybulkcbhe
/- THE CELL 'sum', in the pinned program and in every row, IS THE sha256 OF THE DUMP (.gsa) THAT YbulkcbheProg.lean LOADS. Nothing in Lean hashes anything: it is a label: what it is worth is what the hold of that sum in a sandbox is worth. -/
noncomputable def Yba.pinned : Pinned := { name := "ybulkcbhe", sum := "905413b368adff448388c8962e972fd069d27895135a1a8d4083c53dc265020f", checked := Yba.checked }
namespace Rows
def none {H : Type} : Left H := { results := [], args := [] }

/-- 'portcullis.LawS3878AHolds': WHATEVER THE INPUT: true; the input reads as it did. -/
def lawS3878AHoldsSpec : ChangeSpec := { name := "lawS3878AHolds", fn := fun _ => fun
  | [d1, d2] => { results := [.lit (.bool true)], args := [d1, d2] }
  | _ => none }
def lawS3878AHoldsRow : OpenClaim := { program := "ybulkcbhe", sum := "905413b368adff448388c8962e972fd069d27895135a1a8d4083c53dc265020f", func := "example.com/portcullis/portcullis.LawS3878AHolds", spec := "lawS3878AHolds", unfollowed := true, recurses := true, apart := false }
def LawS3878AHoldsSaid : Prop := lawS3878AHoldsRow.holds Yba.pinned (OpenSpec.ofChange lawS3878AHoldsSpec)

/-- ITS FALSE NEIGHBOUR: 'it returns false'. Refute it at one input. -/
def lawS3878AHoldsWrong : ChangeSpec := { name := "lawS3878AHolds", fn := fun _ => fun
  | [d1, d2] => { results := [.lit (.bool false)], args := [d1, d2] }
  | _ => none }
def LawS3878AHoldsWrongFalsely : Prop := lawS3878AHoldsRow.holds Yba.pinned (OpenSpec.ofChange lawS3878AHoldsWrong)

/-- 'portcullis.LawS3878AScript': WHATEVER THE INPUT: true; the input reads as it did. -/
def lawS3878AScriptSpec : ChangeSpec := { name := "lawS3878AScript", fn := fun _ => fun
  | [d] => { results := [.lit (.bool true)], args := [d] }
  | _ => none }
def lawS3878AScriptRow : OpenClaim := { program := "ybulkcbhe", sum := "905413b368adff448388c8962e972fd069d27895135a1a8d4083c53dc265020f", func := "example.com/portcullis/portcullis.LawS3878AScript", spec := "lawS3878AScript", unfollowed := true, recurses := true, apart := false }
def LawS3878AScriptSaid : Prop := lawS3878AScriptRow.holds Yba.pinned (OpenSpec.ofChange lawS3878AScriptSpec)

/-- ITS FALSE NEIGHBOUR: 'it returns false'. Refute it at one input. -/
def lawS3878AScriptWrong : ChangeSpec := { name := "lawS3878AScript", fn := fun _ => fun
  | [d] => { results := [.lit (.bool false)], args := [d] }
  | _ => none }
def LawS3878AScriptWrongFalsely : Prop := lawS3878AScriptRow.holds Yba.pinned (OpenSpec.ofChange lawS3878AScriptWrong)

end Rows
end Go.Proofs.Ybulkcbhe
