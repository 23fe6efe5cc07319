/-
  The door's own heap meets the condition on the five listed variables.
-/
import Derived.Test.YbulkbsqcDoorOf
namespace Go.Proofs.YbulkbsqcDoor
open Go.ChangeShapes Go.WideShapes Go.ChangeAt Go.RowKit Go.Deep

/-- The door's own heap meets the condition. -/
theorem door_met (os : Os) (args : Array Value) : laidMetH Ybad.prog laid5 ((World.doorLaid Ybad.prog 658 os).forCall (fun _ _ => 0) ⟨#[], args, []⟩).memory :=
  laidMetH_of_parts3 (fuel := 8) (laidMet_of_run' 8 (by kernel_rfl) (by kernel_rfl)) (by kernel_rfl) (by kernel_rfl)
end Go.Proofs.YbulkbsqcDoor
