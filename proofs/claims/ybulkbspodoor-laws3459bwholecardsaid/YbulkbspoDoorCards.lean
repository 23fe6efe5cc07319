/-
  DERIVED. GIVEN WITH THE SEED: THE CARDS: each row of YbulkbspoDoorRows.lean that lists a variable, with what it lists TIED to the program's text (the seventh form; the later family's looks); each row that meets fmt, with fmt's text TOLD by the authors' own Lean function (tested against real Go, not proved from fmt's source: count such statements apart). THE CARD IS WHAT COUNTS. Prove the row's statement (the work); the ties are given (YbulkbspoDoorTie.lean); close each card by the builder's one call (the guide's Derived/Test/ToyasCard.lean, 'card_holds'). Laid BY PROGRAM, IN A SANDBOX (cutbox-door.mjs). By AI agents, Wed Nov 11 2026. No macro, syntax, notation, axiom, sorry.
-/
import Derived.Test.YbulkbspoDoorRows
import GoSem.ClaimSeven
namespace Go.Proofs.YbulkbspoDoor
namespace Rows

/-- THE TIED CARD OF 'ballpark.LawS3459BWhole'. -/
def lawS3459BWholeCard : Claim7 := { stood := { row := lawS3459BWholeRow, standIns := [], harness := (true, "f59ba5a6587cdcdc7c372742b3d61f01a785f8af31c84cb07cd19268e939e855"), looks := false }, kinds := [], alts := [], laidByText := true, laidKinds := [.data], laidTests := true, laidLooks := .later }
def LawS3459BWholeCardSaid : Prop := Claim7.holds Ybad.pinned (.plain (OpenSpec.ofChange lawS3459BWholeSpec)) lawS3459BWholeCard

/-- THE TIED CARD OF 'ballpark.LawS3459BMeet'. -/
def lawS3459BMeetCard : Claim7 := { stood := { row := lawS3459BMeetRow, standIns := [], harness := (true, "f59ba5a6587cdcdc7c372742b3d61f01a785f8af31c84cb07cd19268e939e855"), looks := false }, kinds := [], alts := [], laidByText := true, laidKinds := [.data], laidTests := true, laidLooks := .later }
def LawS3459BMeetCardSaid : Prop := Claim7.holds Ybad.pinned (.plain (OpenSpec.ofChange lawS3459BMeetSpec)) lawS3459BMeetCard
end Rows
end Go.Proofs.YbulkbspoDoor
