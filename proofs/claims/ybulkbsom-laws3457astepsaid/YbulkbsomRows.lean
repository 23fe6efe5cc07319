/-
  No cell of these rows narrows 'for every input' (looked for: loops, veiled, ifaces, maps, wideKeys, modest, calm, conditions, laid).
  DERIVED. THE GIVEN ROWS OF THIS SEAT. 2 by the template 'for every input the law returns true; each argument reads behind the call as it read before'; 0 by the template 'total and deterministic' (their statements: YbulkbsomTotals.lean).
  GIVEN WITH THE SEED: the statements are not yours to turn. If you find one false, say at which input.
  Laid BY PROGRAM, IN A SANDBOX (cutbox-rows.mjs): the forced cells as the released guide's own fill.sh prints them over the translation 72fa602be2cb9e5d… (all of the seat's roots in one cut). By AI agents, Wed Nov 11 2026. No macro, syntax, notation, axiom, sorry.
-/
import Derived.Test.YbulkbsomChecked
import GoSem.Claim
import GoSem.ClaimJoined
import GoSem.ClaimMapViews
import Derived.JoinedTies
import Derived.KernelRfl
namespace Go.Proofs.Ybulkbsom
/- THE CELL 'sum', in the pinned program and in every row, IS THE sha256 OF THE DUMP (.gsa) THAT YbulkbsomProg.lean LOADS. Nothing in Lean hashes anything: it is a label: what it is worth is what the hold of that sum in a sandbox is worth. -/
noncomputable def Yba.pinned : Pinned := { name := "ybulkbsom", sum := "72fa602be2cb9e5d73c42abe7b4b9ce53ffa1253aa7f91bfec5f26cc3dcdd039", checked := Yba.checked }
namespace Rows
def none {H : Type} : Left H := { results := [], args := [] }

/-- 'turnwire.LawS3457AStep': WHATEVER THE INPUT: true; the input reads as it did. -/
def lawS3457AStepSpec : ChangeSpec := { name := "lawS3457AStep", fn := fun _ => fun
  | [d1, d2, d3, d4, d5, d6] => { results := [.lit (.bool true)], args := [d1, d2, d3, d4, d5, d6] }
  | _ => none }
def lawS3457AStepRow : OpenClaim := { program := "ybulkbsom", sum := "72fa602be2cb9e5d73c42abe7b4b9ce53ffa1253aa7f91bfec5f26cc3dcdd039", func := "example.com/turnwire/turnwire.LawS3457AStep", spec := "lawS3457AStep", apart := false }
def LawS3457AStepSaid : Prop := lawS3457AStepRow.holds Yba.pinned (OpenSpec.ofChange lawS3457AStepSpec)

/-- ITS FALSE NEIGHBOUR: 'it returns false'. Refute it at one input. -/
def lawS3457AStepWrong : ChangeSpec := { name := "lawS3457AStep", fn := fun _ => fun
  | [d1, d2, d3, d4, d5, d6] => { results := [.lit (.bool false)], args := [d1, d2, d3, d4, d5, d6] }
  | _ => none }
def LawS3457AStepWrongFalsely : Prop := lawS3457AStepRow.holds Yba.pinned (OpenSpec.ofChange lawS3457AStepWrong)

/-- 'turnwire.LawS3457AHuge': WHATEVER THE INPUT: true; the input reads as it did. -/
def lawS3457AHugeSpec : ChangeSpec := { name := "lawS3457AHuge", fn := fun _ => fun
  | [d1, d2, d3, d4] => { results := [.lit (.bool true)], args := [d1, d2, d3, d4] }
  | _ => none }
def lawS3457AHugeRow : OpenClaim := { program := "ybulkbsom", sum := "72fa602be2cb9e5d73c42abe7b4b9ce53ffa1253aa7f91bfec5f26cc3dcdd039", func := "example.com/turnwire/turnwire.LawS3457AHuge", spec := "lawS3457AHuge", apart := false }
def LawS3457AHugeSaid : Prop := lawS3457AHugeRow.holds Yba.pinned (OpenSpec.ofChange lawS3457AHugeSpec)

/-- ITS FALSE NEIGHBOUR: 'it returns false'. Refute it at one input. -/
def lawS3457AHugeWrong : ChangeSpec := { name := "lawS3457AHuge", fn := fun _ => fun
  | [d1, d2, d3, d4] => { results := [.lit (.bool false)], args := [d1, d2, d3, d4] }
  | _ => none }
def LawS3457AHugeWrongFalsely : Prop := lawS3457AHugeRow.holds Yba.pinned (OpenSpec.ofChange lawS3457AHugeWrong)

end Rows
end Go.Proofs.Ybulkbsom
