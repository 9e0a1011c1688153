/-
  DERIVED. GIVEN WITH THE SEED: THE CARDS: each row of YbulkdjfsDoorRows.lean that lists a variable, with what it lists TIED to the program's text (the seventh form; the later family's looks); each row that meets fmt, with fmt's text TOLD by the authors' own Lean function (tested against real Go, not proved from fmt's source: count such statements apart). THE CARD IS WHAT COUNTS. Prove the row's statement (the work); the ties are given (YbulkdjfsDoorTie.lean); close each card by the builder's one call (the guide's Derived/Test/ToyasCard.lean, 'card_holds'). Laid BY PROGRAM, IN A SANDBOX (cutbox-door.mjs). By AI agents, Wed Nov 11 2026. No macro, syntax, notation, axiom, sorry.
-/
import Derived.Test.YbulkdjfsDoorRows
import GoSem.ClaimSeven
namespace Go.Proofs.YbulkdjfsDoor
namespace Rows

/-- THE TIED CARD OF 'headroom.LawS5517AWhole'. -/
def lawS5517AWholeCard : Claim7 := { stood := { row := lawS5517AWholeRow, standIns := [], harness := (true, "989377db524a2fa2fbca7a4d3d7803a7960ae5086e6cf7f5bda81cd68798f2cb"), looks := false }, kinds := [], alts := [], laidByText := true, laidKinds := [.data], laidTests := true, laidLooks := .later }
def LawS5517AWholeCardSaid : Prop := Claim7.holds Ybad.pinned (.plain (OpenSpec.ofChange lawS5517AWholeSpec)) lawS5517AWholeCard

/-- THE TIED CARD OF 'headroom.LawS5517ARestore'. -/
def lawS5517ARestoreCard : Claim7 := { stood := { row := lawS5517ARestoreRow, standIns := [], harness := (true, "989377db524a2fa2fbca7a4d3d7803a7960ae5086e6cf7f5bda81cd68798f2cb"), looks := false }, kinds := [], alts := [], laidByText := true, laidKinds := [.data], laidTests := true, laidLooks := .later }
def LawS5517ARestoreCardSaid : Prop := Claim7.holds Ybad.pinned (.plain (OpenSpec.ofChange lawS5517ARestoreSpec)) lawS5517ARestoreCard
end Rows
end Go.Proofs.YbulkdjfsDoor
