/-
  NARROWER THAN 'FOR EVERY INPUT', by the rows' own cells (each row's printed sentence says how): LawS5517AWhole: laid · LawS5517ARestore: laid.
  DERIVED. THE GIVEN ROWS OF THIS SEAT. 2 by the template 'for every input the law returns true; each argument reads behind the call as it read before'; 0 by the template 'total and deterministic' (their statements: YbulkdjfsDoorTotals.lean).
  GIVEN WITH THE SEED: the statements are not yours to turn. If you find one false, say at which input.
  Laid BY PROGRAM, IN A SANDBOX (cutbox-rows.mjs): the forced cells as the released guide's own fill.sh prints them over the translation 18dc1b115c5a91e4… (all of the seat's roots in one cut). By AI agents, Wed Nov 11 2026. No macro, syntax, notation, axiom, sorry.
-/
import Derived.Test.YbulkdjfsDoorChecked
import GoSem.Claim
import GoSem.ClaimJoined
import GoSem.ClaimMapViews
import Derived.JoinedTies
import Derived.KernelRfl
namespace Go.Proofs.YbulkdjfsDoor
/- THE CELL 'sum', in the pinned program and in every row, IS THE sha256 OF THE DUMP (.gsa) THAT YbulkdjfsDoorProg.lean LOADS. Nothing in Lean hashes anything: it is a label: what it is worth is what the hold of that sum in a sandbox is worth. -/
noncomputable def Ybad.pinned : Pinned := { name := "ybulkdjfsdoor", sum := "18dc1b115c5a91e43dbf52084c46500669c13216d944971b99e9b8d71624436e", checked := Ybad.checked }
namespace Rows
def none {H : Type} : Left H := { results := [], args := [] }

/- WHAT THE LISTED PACKAGE-LEVEL VARIABLES READ AS WHEN THE CALL BEGINS. Each datum BY PROGRAM (the guide's laid-datum.mjs) off the statement by which the dump's own 'gosem.cut.vars' lays the variable. In a bare row this is a premise. The card (YbulkdjfsDoorCards.lean) ties it to the program's text. -/
def laid_example_com_headroom_headroom_noCut {H : Type} : DataW H := .agg [.lit (.int .i64 640), .lit (.float .f64 4607182418800017408)]

/-- 'headroom.LawS5517AWhole': WHATEVER THE INPUT: true; the input reads as it did. -/
def lawS5517AWholeSpec : ChangeSpec := { name := "lawS5517AWhole", vars := ["example.com/headroom/headroom.noCut"], fn := fun _ => fun
  | [d1, d2, d3, d4, g1] => { results := [.lit (.bool true)], args := [d1, d2, d3, d4], vars := [g1] }
  | _ => none }
def lawS5517AWholeRow : OpenClaim := { program := "ybulkdjfsdoor", sum := "18dc1b115c5a91e43dbf52084c46500669c13216d944971b99e9b8d71624436e", func := "example.com/headroom/headroom.LawS5517AWhole", spec := "lawS5517AWhole", inPlace := ["math.Float64bits"], named := ["example.com/headroom/headroom.noCut"], apart := false, laid := [("example.com/headroom/headroom.noCut", laid_example_com_headroom_headroom_noCut)] }
def LawS5517AWholeSaid : Prop := lawS5517AWholeRow.holds Ybad.pinned (OpenSpec.ofChange lawS5517AWholeSpec)

/-- ITS FALSE NEIGHBOUR: 'it returns false'. Refute it at one input. -/
def lawS5517AWholeWrong : ChangeSpec := { name := "lawS5517AWhole", vars := ["example.com/headroom/headroom.noCut"], fn := fun _ => fun
  | [d1, d2, d3, d4, g1] => { results := [.lit (.bool false)], args := [d1, d2, d3, d4], vars := [g1] }
  | _ => none }
def LawS5517AWholeWrongFalsely : Prop := lawS5517AWholeRow.holds Ybad.pinned (OpenSpec.ofChange lawS5517AWholeWrong)

/-- 'headroom.LawS5517ARestore': WHATEVER THE INPUT: true; the input reads as it did. -/
def lawS5517ARestoreSpec : ChangeSpec := { name := "lawS5517ARestore", vars := ["example.com/headroom/headroom.noCut"], fn := fun _ => fun
  | [d1, d2, d3, d4, d5, g1] => { results := [.lit (.bool true)], args := [d1, d2, d3, d4, d5], vars := [g1] }
  | _ => none }
def lawS5517ARestoreRow : OpenClaim := { program := "ybulkdjfsdoor", sum := "18dc1b115c5a91e43dbf52084c46500669c13216d944971b99e9b8d71624436e", func := "example.com/headroom/headroom.LawS5517ARestore", spec := "lawS5517ARestore", inPlace := ["math.Float64bits"], named := ["example.com/headroom/headroom.noCut"], apart := false, laid := [("example.com/headroom/headroom.noCut", laid_example_com_headroom_headroom_noCut)] }
def LawS5517ARestoreSaid : Prop := lawS5517ARestoreRow.holds Ybad.pinned (OpenSpec.ofChange lawS5517ARestoreSpec)

/-- ITS FALSE NEIGHBOUR: 'it returns false'. Refute it at one input. -/
def lawS5517ARestoreWrong : ChangeSpec := { name := "lawS5517ARestore", vars := ["example.com/headroom/headroom.noCut"], fn := fun _ => fun
  | [d1, d2, d3, d4, d5, g1] => { results := [.lit (.bool false)], args := [d1, d2, d3, d4, d5], vars := [g1] }
  | _ => none }
def LawS5517ARestoreWrongFalsely : Prop := lawS5517ARestoreRow.holds Ybad.pinned (OpenSpec.ofChange lawS5517ARestoreWrong)

end Rows
end Go.Proofs.YbulkdjfsDoor
