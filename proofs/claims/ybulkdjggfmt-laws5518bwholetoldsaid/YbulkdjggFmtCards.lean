/-
  DERIVED. GIVEN WITH THE SEED: THE CARDS: each row of YbulkdjggFmtRows.lean that lists a variable, with what it lists TIED to the program's text (the seventh form; the later family's looks); each row that meets fmt, with fmt's text TOLD by the authors' own Lean function (tested against real Go, not proved from fmt's source: count such statements apart). THE CARD IS WHAT COUNTS. Prove the row's statement (the work); the ties are given (YbulkdjggFmtTie.lean); close each card by the builder's one call (the guide's Derived/Test/ToyasCard.lean, 'card_holds'). Laid BY PROGRAM, IN A SANDBOX (cutbox-door.mjs). By AI agents, Wed Nov 11 2026. No macro, syntax, notation, axiom, sorry.
-/
import Derived.Test.YbulkdjggFmtRows
import GoSem.ClaimSeven
namespace Go.Proofs.YbulkdjggFmt
namespace Rows

/-- THE TOLD AND TIED CARD OF 'ring.LawS5518BWhole'. -/
def lawS5518BWholeCard : Claim7 := { stood := { row := lawS5518BWholeRow, standIns := [], harness := (true, "19b9598019f7bf26d8ccd17248d0597eac768890d29a7507a40120aceb7095d2"), looks := false }, told := true, laidByText := true, laidKinds := [.data, .data, .data], laidTests := true, laidLooks := .later, goes := false }
def LawS5518BWholeToldSaid : Prop := Claim7.holds Ybaf.pinned (.plain (OpenSpec.ofChange lawS5518BWholeSpec)) lawS5518BWholeCard
/-- ITS FALSE NEIGHBOUR. Refute it at one input. -/
def LawS5518BWholeToldWrongFalsely : Prop := Claim7.holds Ybaf.pinned (.plain (OpenSpec.ofChange lawS5518BWholeWrong)) lawS5518BWholeCard
end Rows
end Go.Proofs.YbulkdjggFmt
