/-
  No cell of these rows narrows 'for every input' (looked for: loops, veiled, ifaces, maps, wideKeys, modest, calm, conditions, laid).
  DERIVED. THE GIVEN ROWS OF THIS SEAT. 1 by the template 'for every input the law returns true; each argument reads behind the call as it read before'; 0 by the template 'total and deterministic' (their statements: YbulkdjdoFmtTotals.lean).
  GIVEN WITH THE SEED: the statements are not yours to turn. If you find one false, say at which input.
  Laid BY PROGRAM, IN A SANDBOX (cutbox-rows.mjs): the forced cells as the released guide's own fill.sh prints them over the translation 705670315977456a… (all of the seat's roots in one cut). By AI agents, Wed Nov 11 2026. No macro, syntax, notation, axiom, sorry.
-/
import Derived.Test.YbulkdjdoFmtChecked
import GoSem.Claim
import GoSem.ClaimJoined
import GoSem.ClaimMapViews
import Derived.JoinedTies
import Derived.KernelRfl
namespace Go.Proofs.YbulkdjdoFmt
/- THE CELL 'sum', in the pinned program and in every row, IS THE sha256 OF THE DUMP (.gsa) THAT YbulkdjdoFmtProg.lean LOADS. Nothing in Lean hashes anything: it is a label: what it is worth is what the hold of that sum in a sandbox is worth. -/
noncomputable def Ybaf.pinned : Pinned := { name := "ybulkdjdofmt", sum := "705670315977456aec8fc162faa096c80f809bf883b389041b9f89ccbd3dbadb", checked := Ybaf.checked }
namespace Rows
def none {H : Type} : Left H := { results := [], args := [] }

/-- 'causeway.LawS5513CWhole': WHATEVER THE INPUT: true; the input reads as it did. -/
def lawS5513CWholeSpec : ChangeSpec := { name := "lawS5513CWhole", fn := fun _ => fun
  | [d1, d2, d3, d4] => { results := [.lit (.bool true)], args := [d1, d2, d3, d4] }
  | _ => none }
def lawS5513CWholeRow : OpenClaim := { program := "ybulkdjdofmt", sum := "705670315977456aec8fc162faa096c80f809bf883b389041b9f89ccbd3dbadb", func := "example.com/causeway/causeway.LawS5513CWhole", spec := "lawS5513CWhole", stops := ["fmt.errorf"], inPlace := ["fmt.errorf"], apart := false }
/-- NO THEOREM (fmt's text is open here; it may be false): for the released tool's asking of the row's closed facts alone. THE STATEMENT IS 'LawS5513CWholeToldSaid' (YbulkdjdoFmtCards.lean). -/
def LawS5513CWholeFormAsk : Prop := lawS5513CWholeRow.holds Ybaf.pinned (OpenSpec.ofChange lawS5513CWholeSpec)

/-- ITS FALSE NEIGHBOUR: 'it returns false'. Refute it at one input. -/
def lawS5513CWholeWrong : ChangeSpec := { name := "lawS5513CWhole", fn := fun _ => fun
  | [d1, d2, d3, d4] => { results := [.lit (.bool false)], args := [d1, d2, d3, d4] }
  | _ => none }
def LawS5513CWholeWrongFormAsk : Prop := lawS5513CWholeRow.holds Ybaf.pinned (OpenSpec.ofChange lawS5513CWholeWrong)

end Rows
end Go.Proofs.YbulkdjdoFmt
