/-
  NARROWER THAN 'FOR EVERY INPUT', by the rows' own cells (each row's printed sentence says how): LawS3880BNames: laid · LawS3880BAny: laid.
  DERIVED. THE GIVEN ROWS OF THIS SEAT. 2 by the template 'for every input the law returns true; each argument reads behind the call as it read before'; 0 by the template 'total and deterministic' (their statements: YbulkcbigFmtTotals.lean).
  GIVEN WITH THE SEED: the statements are not yours to turn. If you find one false, say at which input.
  Laid BY PROGRAM, IN A SANDBOX (cutbox-rows.mjs): the forced cells as the released guide's own fill.sh prints them over the translation 336417644786ed87… (all of the seat's roots in one cut). By AI agents, Wed Nov 11 2026. No macro, syntax, notation, axiom, sorry.
-/
import Derived.Test.YbulkcbigFmtChecked
import GoSem.Claim
import GoSem.ClaimJoined
import GoSem.ClaimMapViews
import Derived.JoinedTies
import Derived.KernelRfl
namespace Go.Proofs.YbulkcbigFmt
/- THE CELL 'sum', in the pinned program and in every row, IS THE sha256 OF THE DUMP (.gsa) THAT YbulkcbigFmtProg.lean LOADS. Nothing in Lean hashes anything: it is a label: what it is worth is what the hold of that sum in a sandbox is worth. -/
noncomputable def Ybaf.pinned : Pinned := { name := "ybulkcbigfmt", sum := "336417644786ed87d83c2d0191544e69b2b0995b8c0fe236ac3fc766c14ef831", checked := Ybaf.checked }
namespace Rows
def none {H : Type} : Left H := { results := [], args := [] }

/- WHAT THE LISTED PACKAGE-LEVEL VARIABLES READ AS WHEN THE CALL BEGINS. Each datum BY PROGRAM (the guide's laid-datum.mjs) off the statement by which the dump's own 'gosem.cut.vars' lays the variable. In a bare row this is a premise. The card (YbulkcbigFmtCards.lean) ties it to the program's text. -/
def laid_example_com_backref_backref_levelNames {H : Type} : DataW H := .agg [.lit (.string [100, 101, 102, 97, 117, 108, 116]), .lit (.string [115, 116, 111, 114, 101]), .lit (.string [102, 97, 115, 116, 101, 115, 116]), .lit (.string [98, 97, 108, 97, 110, 99, 101, 100])]

/-- 'backref.LawS3880BNames': WHATEVER THE INPUT: true; the input reads as it did. -/
def lawS3880BNamesSpec : ChangeSpec := { name := "lawS3880BNames", vars := ["example.com/backref/backref.levelNames"], fn := fun _ => fun
  | [d, g1] => { results := [.lit (.bool true)], args := [d], vars := [g1] }
  | _ => none }
def lawS3880BNamesRow : OpenClaim := { program := "ybulkcbigfmt", sum := "336417644786ed87d83c2d0191544e69b2b0995b8c0fe236ac3fc766c14ef831", func := "example.com/backref/backref.LawS3880BNames", spec := "lawS3880BNames", stops := ["fmt.Sprintf"], inPlace := ["fmt.Sprintf"], named := ["example.com/backref/backref.levelNames"], apart := false, laid := [("example.com/backref/backref.levelNames", laid_example_com_backref_backref_levelNames)] }
/-- NO THEOREM (fmt's text is open here; it may be false): for the released tool's asking of the row's closed facts alone. THE STATEMENT IS 'LawS3880BNamesToldSaid' (YbulkcbigFmtCards.lean). -/
def LawS3880BNamesFormAsk : Prop := lawS3880BNamesRow.holds Ybaf.pinned (OpenSpec.ofChange lawS3880BNamesSpec)

/-- ITS FALSE NEIGHBOUR: 'it returns false'. Refute it at one input. -/
def lawS3880BNamesWrong : ChangeSpec := { name := "lawS3880BNames", vars := ["example.com/backref/backref.levelNames"], fn := fun _ => fun
  | [d, g1] => { results := [.lit (.bool false)], args := [d], vars := [g1] }
  | _ => none }
def LawS3880BNamesWrongFormAsk : Prop := lawS3880BNamesRow.holds Ybaf.pinned (OpenSpec.ofChange lawS3880BNamesWrong)

/-- 'backref.LawS3880BAny': WHATEVER THE INPUT: true; the input reads as it did. -/
def lawS3880BAnySpec : ChangeSpec := { name := "lawS3880BAny", vars := ["example.com/backref/backref.levelNames"], fn := fun _ => fun
  | [d, g1] => { results := [.lit (.bool true)], args := [d], vars := [g1] }
  | _ => none }
def lawS3880BAnyRow : OpenClaim := { program := "ybulkcbigfmt", sum := "336417644786ed87d83c2d0191544e69b2b0995b8c0fe236ac3fc766c14ef831", func := "example.com/backref/backref.LawS3880BAny", spec := "lawS3880BAny", stops := ["fmt.Sprintf"], inPlace := ["fmt.Sprintf"], named := ["example.com/backref/backref.levelNames"], apart := false, laid := [("example.com/backref/backref.levelNames", laid_example_com_backref_backref_levelNames)] }
/-- NO THEOREM (fmt's text is open here; it may be false): for the released tool's asking of the row's closed facts alone. THE STATEMENT IS 'LawS3880BAnyToldSaid' (YbulkcbigFmtCards.lean). -/
def LawS3880BAnyFormAsk : Prop := lawS3880BAnyRow.holds Ybaf.pinned (OpenSpec.ofChange lawS3880BAnySpec)

/-- ITS FALSE NEIGHBOUR: 'it returns false'. Refute it at one input. -/
def lawS3880BAnyWrong : ChangeSpec := { name := "lawS3880BAny", vars := ["example.com/backref/backref.levelNames"], fn := fun _ => fun
  | [d, g1] => { results := [.lit (.bool false)], args := [d], vars := [g1] }
  | _ => none }
def LawS3880BAnyWrongFormAsk : Prop := lawS3880BAnyRow.holds Ybaf.pinned (OpenSpec.ofChange lawS3880BAnyWrong)

end Rows
end Go.Proofs.YbulkcbigFmt
