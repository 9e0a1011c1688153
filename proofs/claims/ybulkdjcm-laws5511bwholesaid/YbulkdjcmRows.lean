/-
  No cell of these rows narrows 'for every input' (looked for: loops, veiled, ifaces, maps, wideKeys, modest, calm, conditions, laid).
  DERIVED. THE GIVEN ROWS OF THIS SEAT. 1 by the template 'for every input the law returns true; each argument reads behind the call as it read before'; 0 by the template 'total and deterministic' (their statements: YbulkdjcmTotals.lean).
  GIVEN WITH THE SEED: the statements are not yours to turn. If you find one false, say at which input.
  Laid BY PROGRAM, IN A SANDBOX (cutbox-rows.mjs): the forced cells as the released guide's own fill.sh prints them over the translation ae2015aa71b1d67d… (all of the seat's roots in one cut). By AI agents, Wed Nov 11 2026. No macro, syntax, notation, axiom, sorry.
-/
import Derived.Test.YbulkdjcmChecked
import GoSem.Claim
import GoSem.ClaimJoined
import GoSem.ClaimMapViews
import Derived.JoinedTies
import Derived.KernelRfl
namespace Go.Proofs.Ybulkdjcm
/- THE CELL 'sum', in the pinned program and in every row, IS THE sha256 OF THE DUMP (.gsa) THAT YbulkdjcmProg.lean LOADS. Nothing in Lean hashes anything: it is a label: what it is worth is what the hold of that sum in a sandbox is worth. -/
noncomputable def Yba.pinned : Pinned := { name := "ybulkdjcm", sum := "ae2015aa71b1d67d01268b1b18e20b3a64db99031e00bd5aba589e6f58a689b8", checked := Yba.checked }
namespace Rows
def none {H : Type} : Left H := { results := [], args := [] }

/-- 'nearhop.LawS5511BWhole': WHATEVER THE INPUT: true; the input reads as it did. -/
def lawS5511BWholeSpec : ChangeSpec := { name := "lawS5511BWhole", fn := fun _ => fun
  | [d1, d2, d3, d4] => { results := [.lit (.bool true)], args := [d1, d2, d3, d4] }
  | _ => none }
def lawS5511BWholeRow : OpenClaim := { program := "ybulkdjcm", sum := "ae2015aa71b1d67d01268b1b18e20b3a64db99031e00bd5aba589e6f58a689b8", func := "example.com/nearhop/nearhop.LawS5511BWhole", spec := "lawS5511BWhole", unfollowed := true, recurses := true, plainKeys := false, apart := false }
def LawS5511BWholeSaid : Prop := lawS5511BWholeRow.holds Yba.pinned (OpenSpec.ofChange lawS5511BWholeSpec)

/-- ITS FALSE NEIGHBOUR: 'it returns false'. Refute it at one input. -/
def lawS5511BWholeWrong : ChangeSpec := { name := "lawS5511BWhole", fn := fun _ => fun
  | [d1, d2, d3, d4] => { results := [.lit (.bool false)], args := [d1, d2, d3, d4] }
  | _ => none }
def LawS5511BWholeWrongFalsely : Prop := lawS5511BWholeRow.holds Yba.pinned (OpenSpec.ofChange lawS5511BWholeWrong)

end Rows
end Go.Proofs.Ybulkdjcm
