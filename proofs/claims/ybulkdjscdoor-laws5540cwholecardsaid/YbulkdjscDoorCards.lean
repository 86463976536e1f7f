/-
  DERIVED. GIVEN WITH THE SEED: THE CARDS: each row of YbulkdjscDoorRows.lean that lists a variable, with what it lists TIED to the program's text (the seventh form; the later family's looks); each row that meets fmt, with fmt's text TOLD by the authors' own Lean function (tested against real Go, not proved from fmt's source: count such statements apart). THE CARD IS WHAT COUNTS. Prove the row's statement (the work); the ties are given (YbulkdjscDoorTie.lean); close each card by the builder's one call (the guide's Derived/Test/ToyasCard.lean, 'card_holds'). Laid BY PROGRAM, IN A SANDBOX (cutbox-door.mjs). By AI agents, Wed Nov 11 2026. No macro, syntax, notation, axiom, sorry.
-/
import Derived.Test.YbulkdjscDoorRows
import GoSem.ClaimSeven
namespace Go.Proofs.YbulkdjscDoor
namespace Rows

/-- THE TIED CARD OF 'decimal.LawS5540CWhole'. -/
def lawS5540CWholeCard : Claim7 := { stood := { row := lawS5540CWholeRow, standIns := [], harness := (true, "fc084a481b3bee2e322a3cb370470d26429594e025b333b9e792bb035a305ee7"), looks := false }, kinds := [], alts := [], laidByText := true, laidKinds := [.called], laidTests := true, laidLooks := .later }
def LawS5540CWholeCardSaid : Prop := Claim7.holds Ybad.pinned (.plain (OpenSpec.ofChange lawS5540CWholeSpec)) lawS5540CWholeCard
end Rows
end Go.Proofs.YbulkdjscDoor
