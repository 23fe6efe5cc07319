/-
  NARROWER THAN 'FOR EVERY INPUT', by the rows' own cells (each row's printed sentence says how): LawS3459BWhole: laid · LawS3459BMeet: laid.
  DERIVED. THE GIVEN ROWS OF THIS SEAT. 2 by the template 'for every input the law returns true; each argument reads behind the call as it read before'; 0 by the template 'total and deterministic' (their statements: YbulkbspoDoorTotals.lean).
  GIVEN WITH THE SEED: the statements are not yours to turn. If you find one false, say at which input.
  Laid BY PROGRAM, IN A SANDBOX (cutbox-rows.mjs): the forced cells as the released guide's own fill.sh prints them over the translation 31fcec7cf6be114f… (all of the seat's roots in one cut). By AI agents, Wed Nov 11 2026. No macro, syntax, notation, axiom, sorry.
-/
import Derived.Test.YbulkbspoDoorChecked
import GoSem.Claim
import GoSem.ClaimJoined
import GoSem.ClaimMapViews
import Derived.JoinedTies
import Derived.KernelRfl
namespace Go.Proofs.YbulkbspoDoor
/- THE CELL 'sum', in the pinned program and in every row, IS THE sha256 OF THE DUMP (.gsa) THAT YbulkbspoDoorProg.lean LOADS. Nothing in Lean hashes anything: it is a label: what it is worth is what the hold of that sum in a sandbox is worth. -/
noncomputable def Ybad.pinned : Pinned := { name := "ybulkbspodoor", sum := "31fcec7cf6be114fee524cf447e088ee3f48ae4b49a22a9f81887003895fca92", checked := Ybad.checked }
namespace Rows
def none {H : Type} : Left H := { results := [], args := [] }

/- WHAT THE LISTED PACKAGE-LEVEL VARIABLES READ AS WHEN THE CALL BEGINS. Each datum BY PROGRAM (the guide's laid-datum.mjs) off the statement by which the dump's own 'gosem.cut.vars' lays the variable. In a bare row this is a premise. The card (YbulkbspoDoorCards.lean) ties it to the program's text. -/
def laid_example_com_ballpark_ballpark_types {H : Type} : DataW H := .agg [.agg [.lit (.string []), .lit (.int .u8 0), .lit (.float .f64 0), .lit (.bool false)], .agg [.lit (.string [98, 111, 111, 108, 101, 97, 110]), .lit (.int .u8 0), .lit (.float .f64 4611686018427387904), .lit (.bool false)], .agg [.lit (.string [116, 105, 110, 121, 105, 110, 116]), .lit (.int .u8 1), .lit (.float .f64 4643211215818981376), .lit (.bool false)], .agg [.lit (.string [115, 109, 97, 108, 108, 105, 110, 116]), .lit (.int .u8 1), .lit (.float .f64 4679240012837945344), .lit (.bool false)], .agg [.lit (.string [105, 110, 116, 101, 103, 101, 114]), .lit (.int .u8 1), .lit (.float .f64 0), .lit (.bool false)], .agg [.lit (.string [98, 105, 103, 105, 110, 116]), .lit (.int .u8 1), .lit (.float .f64 0), .lit (.bool false)], .agg [.lit (.string [104, 117, 103, 101, 105, 110, 116]), .lit (.int .u8 1), .lit (.float .f64 0), .lit (.bool false)], .agg [.lit (.string [114, 101, 97, 108]), .lit (.int .u8 2), .lit (.float .f64 0), .lit (.bool false)], .agg [.lit (.string [100, 111, 117, 98, 108, 101]), .lit (.int .u8 2), .lit (.float .f64 0), .lit (.bool false)], .agg [.lit (.string [118, 97, 114, 99, 104, 97, 114]), .lit (.int .u8 3), .lit (.float .f64 0), .lit (.bool false)], .agg [.lit (.string [118, 97, 114, 98, 105, 110, 97, 114, 121]), .lit (.int .u8 3), .lit (.float .f64 0), .lit (.bool true)], .agg [.lit (.string [97, 114, 114, 97, 121]), .lit (.int .u8 0), .lit (.float .f64 0), .lit (.bool true)], .agg [.lit (.string [109, 97, 112]), .lit (.int .u8 0), .lit (.float .f64 0), .lit (.bool true)]]

/-- 'ballpark.LawS3459BWhole': WHATEVER THE INPUT: true; the input reads as it did. -/
def lawS3459BWholeSpec : ChangeSpec := { name := "lawS3459BWhole", vars := ["example.com/ballpark/ballpark.types"], fn := fun _ => fun
  | [d1, d2, g1] => { results := [.lit (.bool true)], args := [d1, d2], vars := [g1] }
  | _ => none }
def lawS3459BWholeRow : OpenClaim := { program := "ybulkbspodoor", sum := "31fcec7cf6be114fee524cf447e088ee3f48ae4b49a22a9f81887003895fca92", func := "example.com/ballpark/ballpark.LawS3459BWhole", spec := "lawS3459BWhole", inPlace := ["internal/bytealg.abigen_runtime_cmpstring"], named := ["example.com/ballpark/ballpark.types"], apart := false, laid := [("example.com/ballpark/ballpark.types", laid_example_com_ballpark_ballpark_types)] }
def LawS3459BWholeSaid : Prop := lawS3459BWholeRow.holds Ybad.pinned (OpenSpec.ofChange lawS3459BWholeSpec)

/-- ITS FALSE NEIGHBOUR: 'it returns false'. Refute it at one input. -/
def lawS3459BWholeWrong : ChangeSpec := { name := "lawS3459BWhole", vars := ["example.com/ballpark/ballpark.types"], fn := fun _ => fun
  | [d1, d2, g1] => { results := [.lit (.bool false)], args := [d1, d2], vars := [g1] }
  | _ => none }
def LawS3459BWholeWrongFalsely : Prop := lawS3459BWholeRow.holds Ybad.pinned (OpenSpec.ofChange lawS3459BWholeWrong)

/-- 'ballpark.LawS3459BMeet': WHATEVER THE INPUT: true; the input reads as it did. -/
def lawS3459BMeetSpec : ChangeSpec := { name := "lawS3459BMeet", vars := ["example.com/ballpark/ballpark.types"], fn := fun _ => fun
  | [d1, d2, d3, d4, d5, d6, g1] => { results := [.lit (.bool true)], args := [d1, d2, d3, d4, d5, d6], vars := [g1] }
  | _ => none }
def lawS3459BMeetRow : OpenClaim := { program := "ybulkbspodoor", sum := "31fcec7cf6be114fee524cf447e088ee3f48ae4b49a22a9f81887003895fca92", func := "example.com/ballpark/ballpark.LawS3459BMeet", spec := "lawS3459BMeet", inPlace := ["internal/bytealg.abigen_runtime_cmpstring"], named := ["example.com/ballpark/ballpark.types"], apart := false, laid := [("example.com/ballpark/ballpark.types", laid_example_com_ballpark_ballpark_types)] }
def LawS3459BMeetSaid : Prop := lawS3459BMeetRow.holds Ybad.pinned (OpenSpec.ofChange lawS3459BMeetSpec)

/-- ITS FALSE NEIGHBOUR: 'it returns false'. Refute it at one input. -/
def lawS3459BMeetWrong : ChangeSpec := { name := "lawS3459BMeet", vars := ["example.com/ballpark/ballpark.types"], fn := fun _ => fun
  | [d1, d2, d3, d4, d5, d6, g1] => { results := [.lit (.bool false)], args := [d1, d2, d3, d4, d5, d6], vars := [g1] }
  | _ => none }
def LawS3459BMeetWrongFalsely : Prop := lawS3459BMeetRow.holds Ybad.pinned (OpenSpec.ofChange lawS3459BMeetWrong)

end Rows
end Go.Proofs.YbulkbspoDoor
