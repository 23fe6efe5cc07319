/-
  DERIVED. GIVEN WITH THE SEED: THE CARDS: each row of YbulkbsqcDoorRows.lean that lists a variable, with what it lists TIED to the program's text (the seventh form; the later family's looks); each row that meets fmt, with fmt's text TOLD by the authors' own Lean function (tested against real Go, not proved from fmt's source: count such statements apart). THE CARD IS WHAT COUNTS. Prove the row's statement (the work); the ties are given (YbulkbsqcDoorTie.lean); close each card by the builder's one call (the guide's Derived/Test/ToyasCard.lean, 'card_holds'). Laid BY PROGRAM, IN A SANDBOX (cutbox-door.mjs). By AI agents, Wed Nov 11 2026. No macro, syntax, notation, axiom, sorry.
-/
import Derived.Test.YbulkbsqcDoorRows
import GoSem.ClaimSeven
namespace Go.Proofs.YbulkbsqcDoor
namespace Rows

/-- THE TIED CARD OF 'shokan.LawS3460CFirstOnOrAfter'. -/
def lawS3460CFirstOnOrAfterCard : Claim7 := { stood := { row := lawS3460CFirstOnOrAfterRow, standIns := [], harness := (true, "f38d270ec80e94d72b35ddb0a343f60e0666b53597261fa79b8da0b47b056297"), looks := false }, kinds := [], alts := [], laidByText := true, laidKinds := [.called, .called, .called, .called, .wider], laidTests := true, laidLooks := .later }
def LawS3460CFirstOnOrAfterCardSaid : Prop := Claim7.holds Ybad.pinned (.plain (OpenSpec.ofChange lawS3460CFirstOnOrAfterSpec)) lawS3460CFirstOnOrAfterCard

/-- THE TIED CARD OF 'shokan.LawS3460CFirstOnOrAfterInActYears'. -/
def lawS3460CFirstOnOrAfterInActYearsCard : Claim7 := { stood := { row := lawS3460CFirstOnOrAfterInActYearsRow, standIns := [], harness := (true, "f38d270ec80e94d72b35ddb0a343f60e0666b53597261fa79b8da0b47b056297"), looks := false }, kinds := [], alts := [], laidByText := true, laidKinds := [.called, .called, .called, .called, .wider], laidTests := true, laidLooks := .later }
def LawS3460CFirstOnOrAfterInActYearsCardSaid : Prop := Claim7.holds Ybad.pinned (.plain (OpenSpec.ofChange lawS3460CFirstOnOrAfterInActYearsSpec)) lawS3460CFirstOnOrAfterInActYearsCard
end Rows
end Go.Proofs.YbulkbsqcDoor
