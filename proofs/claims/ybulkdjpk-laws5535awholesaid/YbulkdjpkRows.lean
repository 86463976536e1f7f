/-
  No cell of these rows narrows 'for every input' (looked for: loops, veiled, ifaces, maps, wideKeys, modest, calm, conditions, laid).
  DERIVED. THE GIVEN ROWS OF THIS SEAT. 2 by the template 'for every input the law returns true; each argument reads behind the call as it read before'; 0 by the template 'total and deterministic' (their statements: YbulkdjpkTotals.lean).
  GIVEN WITH THE SEED: the statements are not yours to turn. If you find one false, say at which input.
  Laid BY PROGRAM, IN A SANDBOX (cutbox-rows.mjs): the forced cells as the released guide's own fill.sh prints them over the translation ad5ff174330cc930… (all of the seat's roots in one cut). By AI agents, Wed Nov 11 2026. No macro, syntax, notation, axiom, sorry.
-/
import Derived.Test.YbulkdjpkChecked
import GoSem.Claim
import GoSem.ClaimJoined
import GoSem.ClaimMapViews
import Derived.JoinedTies
import Derived.KernelRfl
namespace Go.Proofs.Ybulkdjpk
/- THE CELL 'sum', in the pinned program and in every row, IS THE sha256 OF THE DUMP (.gsa) THAT YbulkdjpkProg.lean LOADS. Nothing in Lean hashes anything: it is a label: what it is worth is what the hold of that sum in a sandbox is worth. -/
noncomputable def Yba.pinned : Pinned := { name := "ybulkdjpk", sum := "ad5ff174330cc930e8a51db7067dd96bb263c4df02461d97ca34c97b8ba82c04", checked := Yba.checked }
namespace Rows
def none {H : Type} : Left H := { results := [], args := [] }

/-- 'sim.LawS5535AWhole': WHATEVER THE INPUT: true; the input reads as it did. -/
def lawS5535AWholeSpec : ChangeSpec := { name := "lawS5535AWhole", fn := fun _ => fun
  | [d1, d2, d3, d4, d5] => { results := [.lit (.bool true)], args := [d1, d2, d3, d4, d5] }
  | _ => none }
def lawS5535AWholeRow : OpenClaim := { program := "ybulkdjpk", sum := "ad5ff174330cc930e8a51db7067dd96bb263c4df02461d97ca34c97b8ba82c04", func := "example.com/finalith/finalith/internal/sim.LawS5535AWhole", spec := "lawS5535AWhole", unfollowed := true, recurses := true, plainKeys := false, apart := false }
def LawS5535AWholeSaid : Prop := lawS5535AWholeRow.holds Yba.pinned (OpenSpec.ofChange lawS5535AWholeSpec)

/-- ITS FALSE NEIGHBOUR: 'it returns false'. Refute it at one input. -/
def lawS5535AWholeWrong : ChangeSpec := { name := "lawS5535AWhole", fn := fun _ => fun
  | [d1, d2, d3, d4, d5] => { results := [.lit (.bool false)], args := [d1, d2, d3, d4, d5] }
  | _ => none }
def LawS5535AWholeWrongFalsely : Prop := lawS5535AWholeRow.holds Yba.pinned (OpenSpec.ofChange lawS5535AWholeWrong)

/-- 'format.LawS5535CWhole': WHATEVER THE INPUT: true; the input reads as it did. -/
def lawS5535CWholeSpec : ChangeSpec := { name := "lawS5535CWhole", fn := fun _ => fun
  | [d1, d2, d3, d4] => { results := [.lit (.bool true)], args := [d1, d2, d3, d4] }
  | _ => none }
def lawS5535CWholeRow : OpenClaim := { program := "ybulkdjpk", sum := "ad5ff174330cc930e8a51db7067dd96bb263c4df02461d97ca34c97b8ba82c04", func := "example.com/finalith/finalith/format.LawS5535CWhole", spec := "lawS5535CWhole", unfollowed := true, recurses := true, plainKeys := false, apart := false }
def LawS5535CWholeSaid : Prop := lawS5535CWholeRow.holds Yba.pinned (OpenSpec.ofChange lawS5535CWholeSpec)

/-- ITS FALSE NEIGHBOUR: 'it returns false'. Refute it at one input. -/
def lawS5535CWholeWrong : ChangeSpec := { name := "lawS5535CWhole", fn := fun _ => fun
  | [d1, d2, d3, d4] => { results := [.lit (.bool false)], args := [d1, d2, d3, d4] }
  | _ => none }
def LawS5535CWholeWrongFalsely : Prop := lawS5535CWholeRow.holds Yba.pinned (OpenSpec.ofChange lawS5535CWholeWrong)

end Rows
end Go.Proofs.Ybulkdjpk
