/-
  No cell of these rows narrows 'for every input' (looked for: loops, veiled, ifaces, maps, wideKeys, modest, calm, conditions, laid).
  DERIVED. THE GIVEN ROWS OF THIS SEAT. 1 by the template 'for every input the law returns true; each argument reads behind the call as it read before'; 0 by the template 'total and deterministic' (their statements: YbulkdjugFmtTotals.lean).
  GIVEN WITH THE SEED: the statements are not yours to turn. If you find one false, say at which input.
  Laid BY PROGRAM, IN A SANDBOX (cutbox-rows.mjs): the forced cells as the released guide's own fill.sh prints them over the translation 77b734a6fa5bb5b5… (all of the seat's roots in one cut). By AI agents, Wed Nov 11 2026. No macro, syntax, notation, axiom, sorry.
-/
import Derived.Test.YbulkdjugFmtChecked
import GoSem.Claim
import GoSem.ClaimJoined
import GoSem.ClaimMapViews
import Derived.JoinedTies
import Derived.KernelRfl
namespace Go.Proofs.YbulkdjugFmt
/- THE CELL 'sum', in the pinned program and in every row, IS THE sha256 OF THE DUMP (.gsa) THAT YbulkdjugFmtProg.lean LOADS. Nothing in Lean hashes anything: it is a label: what it is worth is what the hold of that sum in a sandbox is worth. -/
noncomputable def Ybaf.pinned : Pinned := { name := "ybulkdjugfmt", sum := "77b734a6fa5bb5b5c5a604aa130df004f6976a623c243fbf58bb89ec516e6afa", checked := Ybaf.checked }
namespace Rows
def none {H : Type} : Left H := { results := [], args := [] }

/-- 'tlog.LawS5544AWhole': WHATEVER THE INPUT: true; the input reads as it did. -/
def lawS5544AWholeSpec : ChangeSpec := { name := "lawS5544AWhole", fn := fun _ => fun
  | [d1, d2, d3, d4, d5] => { results := [.lit (.bool true)], args := [d1, d2, d3, d4, d5] }
  | _ => none }
def lawS5544AWholeRow : OpenClaim := { program := "ybulkdjugfmt", sum := "77b734a6fa5bb5b5c5a604aa130df004f6976a623c243fbf58bb89ec516e6afa", func := "example.com/timeweave/timeweave/tlog.LawS5544AWhole", spec := "lawS5544AWhole", stops := ["fmt.errorf"], inPlace := ["fmt.errorf"], apart := false }
/-- NO THEOREM (fmt's text is open here; it may be false): for the released tool's asking of the row's closed facts alone. THE STATEMENT IS 'LawS5544AWholeToldSaid' (YbulkdjugFmtCards.lean). -/
def LawS5544AWholeFormAsk : Prop := lawS5544AWholeRow.holds Ybaf.pinned (OpenSpec.ofChange lawS5544AWholeSpec)

/-- ITS FALSE NEIGHBOUR: 'it returns false'. Refute it at one input. -/
def lawS5544AWholeWrong : ChangeSpec := { name := "lawS5544AWhole", fn := fun _ => fun
  | [d1, d2, d3, d4, d5] => { results := [.lit (.bool false)], args := [d1, d2, d3, d4, d5] }
  | _ => none }
def LawS5544AWholeWrongFormAsk : Prop := lawS5544AWholeRow.holds Ybaf.pinned (OpenSpec.ofChange lawS5544AWholeWrong)

end Rows
end Go.Proofs.YbulkdjugFmt
