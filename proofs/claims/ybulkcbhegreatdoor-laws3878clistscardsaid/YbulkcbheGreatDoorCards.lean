/-
  DERIVED. GIVEN WITH THE SEED: THE CARDS: each row of YbulkcbheGreatDoorRows.lean that lists a variable, with what it lists TIED to the program's text (the seventh form; the later family's looks); each row that meets fmt, with fmt's text TOLD by the authors' own Lean function (tested against real Go, not proved from fmt's source: count such statements apart). THE CARD IS WHAT COUNTS. Prove the row's statement (the work); the ties are given (YbulkcbheGreatDoorTie.lean); close each card by the builder's one call (the guide's Derived/Test/ToyasCard.lean, 'card_holds'). Laid BY PROGRAM, IN A SANDBOX (cutbox-door.mjs). By AI agents, Wed Nov 11 2026. No macro, syntax, notation, axiom, sorry.
-/
import Derived.Test.YbulkcbheGreatDoorRows
import GoSem.ClaimSeven
namespace Go.Proofs.YbulkcbheGreatDoor
namespace Rows

/-- THE TIED CARD OF 'portcullis.LawS3878CScore'. -/
def lawS3878CScoreCard : Claim7 := { stood := { row := lawS3878CScoreRow, standIns := [], harness := (true, "6123e8a7e79806977f1b7337fe0096a27fb81fac6ce00ab88a3c70d251ed27e2"), looks := false }, kinds := [], alts := [], laidByText := true, laidKinds := [.data, .data, .data, .called, .called, .zero], laidTests := true, laidLooks := .later }
def LawS3878CScoreCardSaid : Prop := Claim7.holds Ybaz.pinned (.plain (OpenSpec.ofChange lawS3878CScoreSpec)) lawS3878CScoreCard

/-- THE TIED CARD OF 'portcullis.LawS3878CBan'. -/
def lawS3878CBanCard : Claim7 := { stood := { row := lawS3878CBanRow, standIns := [], harness := (true, "6123e8a7e79806977f1b7337fe0096a27fb81fac6ce00ab88a3c70d251ed27e2"), looks := false }, kinds := [], alts := [], laidByText := true, laidKinds := [.data, .data, .data, .called, .called, .zero], laidTests := true, laidLooks := .later }
def LawS3878CBanCardSaid : Prop := Claim7.holds Ybaz.pinned (.plain (OpenSpec.ofChange lawS3878CBanSpec)) lawS3878CBanCard

/-- THE TIED CARD OF 'portcullis.LawS3878CLists'. -/
def lawS3878CListsCard : Claim7 := { stood := { row := lawS3878CListsRow, standIns := [], harness := (true, "6123e8a7e79806977f1b7337fe0096a27fb81fac6ce00ab88a3c70d251ed27e2"), looks := false }, kinds := [], alts := [], laidByText := true, laidKinds := [.data, .data, .data, .called, .called, .zero], laidTests := true, laidLooks := .later }
def LawS3878CListsCardSaid : Prop := Claim7.holds Ybaz.pinned (.plain (OpenSpec.ofChange lawS3878CListsSpec)) lawS3878CListsCard
end Rows
end Go.Proofs.YbulkcbheGreatDoor
