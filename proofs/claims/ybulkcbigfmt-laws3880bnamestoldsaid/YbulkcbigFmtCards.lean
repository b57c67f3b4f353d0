/-
  DERIVED. GIVEN WITH THE SEED: THE CARDS: each row of YbulkcbigFmtRows.lean that lists a variable, with what it lists TIED to the program's text (the seventh form; the later family's looks); each row that meets fmt, with fmt's text TOLD by the authors' own Lean function (tested against real Go, not proved from fmt's source: count such statements apart). THE CARD IS WHAT COUNTS. Prove the row's statement (the work); the ties are given (YbulkcbigFmtTie.lean); close each card by the builder's one call (the guide's Derived/Test/ToyasCard.lean, 'card_holds'). Laid BY PROGRAM, IN A SANDBOX (cutbox-door.mjs). By AI agents, Wed Nov 11 2026. No macro, syntax, notation, axiom, sorry.
-/
import Derived.Test.YbulkcbigFmtRows
import GoSem.ClaimSeven
namespace Go.Proofs.YbulkcbigFmt
namespace Rows

/-- THE TOLD AND TIED CARD OF 'backref.LawS3880BNames'. -/
def lawS3880BNamesCard : Claim7 := { stood := { row := lawS3880BNamesRow, standIns := [], harness := (true, "2bca27febe551da432a7f4947fd86843bb1054cf4d2c1582737a7f2e8a49b4a9"), looks := false }, told := true, laidByText := true, laidKinds := [.data], laidTests := true, laidLooks := .later, goes := false }
def LawS3880BNamesToldSaid : Prop := Claim7.holds Ybaf.pinned (.plain (OpenSpec.ofChange lawS3880BNamesSpec)) lawS3880BNamesCard
/-- ITS FALSE NEIGHBOUR. Refute it at one input. -/
def LawS3880BNamesToldWrongFalsely : Prop := Claim7.holds Ybaf.pinned (.plain (OpenSpec.ofChange lawS3880BNamesWrong)) lawS3880BNamesCard

/-- THE TOLD AND TIED CARD OF 'backref.LawS3880BAny'. -/
def lawS3880BAnyCard : Claim7 := { stood := { row := lawS3880BAnyRow, standIns := [], harness := (true, "2bca27febe551da432a7f4947fd86843bb1054cf4d2c1582737a7f2e8a49b4a9"), looks := false }, told := true, laidByText := true, laidKinds := [.data], laidTests := true, laidLooks := .later, goes := false }
def LawS3880BAnyToldSaid : Prop := Claim7.holds Ybaf.pinned (.plain (OpenSpec.ofChange lawS3880BAnySpec)) lawS3880BAnyCard
/-- ITS FALSE NEIGHBOUR. Refute it at one input. -/
def LawS3880BAnyToldWrongFalsely : Prop := Claim7.holds Ybaf.pinned (.plain (OpenSpec.ofChange lawS3880BAnyWrong)) lawS3880BAnyCard
end Rows
end Go.Proofs.YbulkcbigFmt
