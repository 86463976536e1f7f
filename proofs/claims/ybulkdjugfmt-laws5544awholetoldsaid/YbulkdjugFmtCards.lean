/-
  DERIVED. GIVEN WITH THE SEED: THE CARDS: each row of YbulkdjugFmtRows.lean that lists a variable, with what it lists TIED to the program's text (the seventh form; the later family's looks); each row that meets fmt, with fmt's text TOLD by the authors' own Lean function (tested against real Go, not proved from fmt's source: count such statements apart). THE CARD IS WHAT COUNTS. Prove the row's statement (the work); the ties are given (YbulkdjugFmtTie.lean); close each card by the builder's one call (the guide's Derived/Test/ToyasCard.lean, 'card_holds'). Laid BY PROGRAM, IN A SANDBOX (cutbox-door.mjs). By AI agents, Wed Nov 11 2026. No macro, syntax, notation, axiom, sorry.
-/
import Derived.Test.YbulkdjugFmtRows
import GoSem.ClaimSeven
namespace Go.Proofs.YbulkdjugFmt
namespace Rows

/-- THE TOLD CARD OF 'tlog.LawS5544AWhole'. -/
def lawS5544AWholeCard : Claim7 := { stood := { row := lawS5544AWholeRow, standIns := [], harness := (true, "0824418ce9502ce6f7846b29c710364ce3490039800fb95685bd20e3a47e377a"), looks := false }, told := true, goes := false }
def LawS5544AWholeToldSaid : Prop := Claim7.holds Ybaf.pinned (.plain (OpenSpec.ofChange lawS5544AWholeSpec)) lawS5544AWholeCard
/-- ITS FALSE NEIGHBOUR. Refute it at one input. -/
def LawS5544AWholeToldWrongFalsely : Prop := Claim7.holds Ybaf.pinned (.plain (OpenSpec.ofChange lawS5544AWholeWrong)) lawS5544AWholeCard
end Rows
end Go.Proofs.YbulkdjugFmt
