/-
  No cell of these rows narrows 'for every input' (looked for: loops, veiled, ifaces, maps, wideKeys, modest, calm, conditions, laid).
  DERIVED. THE GIVEN ROWS OF THIS SEAT. 2 by the template 'for every input the law returns true; each argument reads behind the call as it read before'; 0 by the template 'total and deterministic' (their statements: YbulkbsqcTotals.lean).
  GIVEN WITH THE SEED: the statements are not yours to turn. If you find one false, say at which input.
  Laid BY PROGRAM, IN A SANDBOX (cutbox-rows.mjs): the forced cells as the released guide's own fill.sh prints them over the translation b4ab45c87e9df898… (all of the seat's roots in one cut). By AI agents, Wed Nov 11 2026. No macro, syntax, notation, axiom, sorry.
-/
import Derived.Test.YbulkbsqcChecked
import GoSem.Claim
import GoSem.ClaimJoined
import GoSem.ClaimMapViews
import Derived.JoinedTies
import Derived.KernelRfl
namespace Go.Proofs.Ybulkbsqc
/- THE CELL 'sum', in the pinned program and in every row, IS THE sha256 OF THE DUMP (.gsa) THAT YbulkbsqcProg.lean LOADS. Nothing in Lean hashes anything: it is a label: what it is worth is what the hold of that sum in a sandbox is worth. -/
noncomputable def Yba.pinned : Pinned := { name := "ybulkbsqc", sum := "b4ab45c87e9df898878cda6e25e61dfd281ca85a4f2e36b60ec00b7225227485", checked := Yba.checked }
namespace Rows
def none {H : Type} : Left H := { results := [], args := [] }

/-- 'shokan.LawS3460AExact': WHATEVER THE INPUT: true; the input reads as it did. -/
def lawS3460AExactSpec : ChangeSpec := { name := "lawS3460AExact", fn := fun _ => fun
  | [d1, d2, d3, d4, d5, d6, d7] => { results := [.lit (.bool true)], args := [d1, d2, d3, d4, d5, d6, d7] }
  | _ => none }
def lawS3460AExactRow : OpenClaim := { program := "ybulkbsqc", sum := "b4ab45c87e9df898878cda6e25e61dfd281ca85a4f2e36b60ec00b7225227485", func := "example.com/shokan/shokan.LawS3460AExact", spec := "lawS3460AExact", apart := false }
def LawS3460AExactSaid : Prop := lawS3460AExactRow.holds Yba.pinned (OpenSpec.ofChange lawS3460AExactSpec)

/-- ITS FALSE NEIGHBOUR: 'it returns false'. Refute it at one input. -/
def lawS3460AExactWrong : ChangeSpec := { name := "lawS3460AExact", fn := fun _ => fun
  | [d1, d2, d3, d4, d5, d6, d7] => { results := [.lit (.bool false)], args := [d1, d2, d3, d4, d5, d6, d7] }
  | _ => none }
def LawS3460AExactWrongFalsely : Prop := lawS3460AExactRow.holds Yba.pinned (OpenSpec.ofChange lawS3460AExactWrong)

/-- 'shokan.LawS3460AMultiples': WHATEVER THE INPUT: true; the input reads as it did. -/
def lawS3460AMultiplesSpec : ChangeSpec := { name := "lawS3460AMultiples", fn := fun _ => fun
  | [d1, d2] => { results := [.lit (.bool true)], args := [d1, d2] }
  | _ => none }
def lawS3460AMultiplesRow : OpenClaim := { program := "ybulkbsqc", sum := "b4ab45c87e9df898878cda6e25e61dfd281ca85a4f2e36b60ec00b7225227485", func := "example.com/shokan/shokan.LawS3460AMultiples", spec := "lawS3460AMultiples", apart := false }
def LawS3460AMultiplesSaid : Prop := lawS3460AMultiplesRow.holds Yba.pinned (OpenSpec.ofChange lawS3460AMultiplesSpec)

/-- ITS FALSE NEIGHBOUR: 'it returns false'. Refute it at one input. -/
def lawS3460AMultiplesWrong : ChangeSpec := { name := "lawS3460AMultiples", fn := fun _ => fun
  | [d1, d2] => { results := [.lit (.bool false)], args := [d1, d2] }
  | _ => none }
def LawS3460AMultiplesWrongFalsely : Prop := lawS3460AMultiplesRow.holds Yba.pinned (OpenSpec.ofChange lawS3460AMultiplesWrong)

end Rows
end Go.Proofs.Ybulkbsqc
