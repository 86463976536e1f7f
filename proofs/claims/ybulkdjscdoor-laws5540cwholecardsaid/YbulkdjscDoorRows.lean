/-
  NARROWER THAN 'FOR EVERY INPUT', by the rows' own cells (each row's printed sentence says how): LawS5540CWhole: laid.
  DERIVED. THE GIVEN ROWS OF THIS SEAT. 1 by the template 'for every input the law returns true; each argument reads behind the call as it read before'; 0 by the template 'total and deterministic' (their statements: YbulkdjscDoorTotals.lean).
  GIVEN WITH THE SEED: the statements are not yours to turn. If you find one false, say at which input.
  Laid BY PROGRAM, IN A SANDBOX (cutbox-rows.mjs): the forced cells as the released guide's own fill.sh prints them over the translation 51ee68a23f5dc92c… (all of the seat's roots in one cut). By AI agents, Wed Nov 11 2026. No macro, syntax, notation, axiom, sorry.
-/
import Derived.Test.YbulkdjscDoorChecked
import GoSem.Claim
import GoSem.ClaimJoined
import GoSem.ClaimMapViews
import Derived.JoinedTies
import Derived.KernelRfl
namespace Go.Proofs.YbulkdjscDoor
/- THE CELL 'sum', in the pinned program and in every row, IS THE sha256 OF THE DUMP (.gsa) THAT YbulkdjscDoorProg.lean LOADS. Nothing in Lean hashes anything: it is a label: what it is worth is what the hold of that sum in a sandbox is worth. -/
noncomputable def Ybad.pinned : Pinned := { name := "ybulkdjscdoor", sum := "51ee68a23f5dc92c9f7a58c92ea203d81f369be378bc0f83ebfa1042973e9ee1", checked := Ybad.checked }
namespace Rows
def none {H : Type} : Left H := { results := [], args := [] }

/- WHAT THE LISTED PACKAGE-LEVEL VARIABLES READ AS WHEN THE CALL BEGINS. Each datum BY PROGRAM (the guide's laid-datum.mjs) off the statement by which the dump's own 'gosem.cut.vars' lays the variable. In a bare row this is a premise. The card (YbulkdjscDoorCards.lean) ties it to the program's text. -/
def laid_example_com_innermost_innermost_internal_decimal_pow10u {H : Type} : DataW H := .agg [.lit (.int .u64 1), .lit (.int .u64 10), .lit (.int .u64 100), .lit (.int .u64 1000), .lit (.int .u64 10000), .lit (.int .u64 100000), .lit (.int .u64 1000000), .lit (.int .u64 10000000), .lit (.int .u64 100000000), .lit (.int .u64 1000000000), .lit (.int .u64 10000000000), .lit (.int .u64 100000000000), .lit (.int .u64 1000000000000), .lit (.int .u64 10000000000000), .lit (.int .u64 100000000000000), .lit (.int .u64 1000000000000000), .lit (.int .u64 10000000000000000), .lit (.int .u64 100000000000000000), .lit (.int .u64 1000000000000000000), .lit (.int .u64 10000000000000000000)]

/-- 'decimal.LawS5540CWhole': WHATEVER THE INPUT: true; the input reads as it did. -/
def lawS5540CWholeSpec : ChangeSpec := { name := "lawS5540CWhole", vars := ["example.com/innermost/innermost/internal/decimal.pow10u"], fn := fun _ => fun
  | [d1, d2, d3, g1] => { results := [.lit (.bool true)], args := [d1, d2, d3], vars := [g1] }
  | _ => none }
def lawS5540CWholeRow : OpenClaim := { program := "ybulkdjscdoor", sum := "51ee68a23f5dc92c9f7a58c92ea203d81f369be378bc0f83ebfa1042973e9ee1", func := "example.com/innermost/innermost/internal/decimal.LawS5540CWhole", spec := "lawS5540CWhole", named := ["example.com/innermost/innermost/internal/decimal.pow10u"], apart := false, laid := [("example.com/innermost/innermost/internal/decimal.pow10u", laid_example_com_innermost_innermost_internal_decimal_pow10u)] }
def LawS5540CWholeSaid : Prop := lawS5540CWholeRow.holds Ybad.pinned (OpenSpec.ofChange lawS5540CWholeSpec)

/-- ITS FALSE NEIGHBOUR: 'it returns false'. Refute it at one input. -/
def lawS5540CWholeWrong : ChangeSpec := { name := "lawS5540CWhole", vars := ["example.com/innermost/innermost/internal/decimal.pow10u"], fn := fun _ => fun
  | [d1, d2, d3, g1] => { results := [.lit (.bool false)], args := [d1, d2, d3], vars := [g1] }
  | _ => none }
def LawS5540CWholeWrongFalsely : Prop := lawS5540CWholeRow.holds Ybad.pinned (OpenSpec.ofChange lawS5540CWholeWrong)

end Rows
end Go.Proofs.YbulkdjscDoor
