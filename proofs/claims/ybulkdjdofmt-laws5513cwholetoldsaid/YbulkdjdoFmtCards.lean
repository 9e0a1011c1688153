/-
  DERIVED. GIVEN WITH THE SEED: THE CARDS: each row of YbulkdjdoFmtRows.lean that lists a variable, with what it lists TIED to the program's text (the seventh form; the later family's looks); each row that meets fmt, with fmt's text TOLD by the authors' own Lean function (tested against real Go, not proved from fmt's source: count such statements apart). THE CARD IS WHAT COUNTS. Prove the row's statement (the work); the ties are given (YbulkdjdoFmtTie.lean); close each card by the builder's one call (the guide's Derived/Test/ToyasCard.lean, 'card_holds'). Laid BY PROGRAM, IN A SANDBOX (cutbox-door.mjs). By AI agents, Wed Nov 11 2026. No macro, syntax, notation, axiom, sorry.
-/
import Derived.Test.YbulkdjdoFmtRows
import GoSem.ClaimSeven
namespace Go.Proofs.YbulkdjdoFmt
namespace Rows

/-- THE TOLD CARD OF 'causeway.LawS5513CWhole'. -/
def lawS5513CWholeCard : Claim7 := { stood := { row := lawS5513CWholeRow, standIns := [], harness := (true, "2c09ca30b8587b3cbf9a55676a7d856aae13fbf039db3ed6e5182760d6489a7a"), looks := false }, told := true, goes := false }
def LawS5513CWholeToldSaid : Prop := Claim7.holds Ybaf.pinned (.plain (OpenSpec.ofChange lawS5513CWholeSpec)) lawS5513CWholeCard
/-- ITS FALSE NEIGHBOUR. Refute it at one input. -/
def LawS5513CWholeToldWrongFalsely : Prop := Claim7.holds Ybaf.pinned (.plain (OpenSpec.ofChange lawS5513CWholeWrong)) lawS5513CWholeCard
end Rows
end Go.Proofs.YbulkdjdoFmt
