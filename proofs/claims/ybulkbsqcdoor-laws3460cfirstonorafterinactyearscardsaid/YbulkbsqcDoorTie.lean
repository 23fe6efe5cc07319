/-
  DERIVED. GIVEN WITH THE SEED: THE PROGRAM's TIES (one call each: nine closed facts by the kernel) AND EACH ROW's TIE, after the 31st guide's Derived/Test/Toyas{Tie, Card}.lean. No idea stands in it: it is a product of the set-up. Laid BY PROGRAM, IN A SANDBOX (cutbox-door.mjs). By AI agents, Wed Nov 11 2026. No macro, syntax, notation, axiom, sorry.
-/
import Derived.Test.YbulkbsqcDoorRows
import Derived.LaidByTextLater
import Derived.SevenTiedAt
import Derived.LaidSub
import Derived.LaidOnce
namespace Go.Proofs.YbulkbsqcDoor
open Go
set_option maxRecDepth 100000
theorem seatTie1 : Ybad.prog.laidByTextLater [("example.com/shokan/shokan.substituteHolidaysFrom", Rows.laid_example_com_shokan_shokan_substituteHolidaysFrom), ("example.com/shokan/shokan.citizensHolidaysFrom", Rows.laid_example_com_shokan_shokan_citizensHolidaysFrom), ("example.com/shokan/shokan.substituteRunsOnFrom", Rows.laid_example_com_shokan_shokan_substituteRunsOnFrom), ("example.com/shokan/shokan.holidayRules", Rows.laid_example_com_shokan_shokan_holidayRules), ("example.com/shokan/shokan.equinoxFits", Rows.laid_example_com_shokan_shokan_equinoxFits)] [.called, .called, .called, .called, .wider] true :=
  Program.laidByTextLater_by_one 658 8 229 (by kernel_rfl) (by kernel_rfl) (by kernel_rfl) (by kernel_rfl) (by kernel_rfl) (by kernel_rfl) (fun _ _ => by kernel_rfl)
theorem noOwnUnsafe : Ybad.pinned.checked.prog.headLifts.contains "ownunsafe" = false := by kernel_rfl
theorem tie : Ybad.prog.laidByTextLater [("example.com/shokan/shokan.substituteHolidaysFrom", Rows.laid_example_com_shokan_shokan_substituteHolidaysFrom), ("example.com/shokan/shokan.citizensHolidaysFrom", Rows.laid_example_com_shokan_shokan_citizensHolidaysFrom), ("example.com/shokan/shokan.substituteRunsOnFrom", Rows.laid_example_com_shokan_shokan_substituteRunsOnFrom), ("example.com/shokan/shokan.holidayRules", Rows.laid_example_com_shokan_shokan_holidayRules), ("example.com/shokan/shokan.equinoxFits", Rows.laid_example_com_shokan_shokan_equinoxFits)] [.called, .called, .called, .called, .wider] true :=
  Program.laidByTextLater.sub seatTie1 ["example.com/shokan/shokan.substituteHolidaysFrom", "example.com/shokan/shokan.citizensHolidaysFrom", "example.com/shokan/shokan.substituteRunsOnFrom", "example.com/shokan/shokan.holidayRules", "example.com/shokan/shokan.equinoxFits"] (by kernel_rfl) (by kernel_rfl)
theorem lawS3460CFirstOnOrAfter_row_tie : Rows.lawS3460CFirstOnOrAfterRow.laidByTextAt .later Ybad.pinned [.called, .called, .called, .called, .wider] true :=
  OpenClaim.laidByTextAt_later rfl rfl tie noOwnUnsafe
theorem lawS3460CFirstOnOrAfterInActYears_row_tie : Rows.lawS3460CFirstOnOrAfterInActYearsRow.laidByTextAt .later Ybad.pinned [.called, .called, .called, .called, .wider] true :=
  OpenClaim.laidByTextAt_later rfl rfl tie noOwnUnsafe
end Go.Proofs.YbulkbsqcDoor
