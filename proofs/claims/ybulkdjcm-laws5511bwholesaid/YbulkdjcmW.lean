/-
  A BLOCK OF A FUNCTION's BODY, by its number.
-/
import Derived.Test.YbulkdjcmM
import Derived.Deep.CutBlock
import Derived.Deep.DeepCutAuto
import Derived.Deep.RegionHeld3
namespace Go.Proofs.Ybulkdjcm
open Go.RowKit

def blk (n : Nat) : Code → Option Code
  | .block m c => if m = n then some (.block m c) else blk n c
  | .seq a b => match blk n a with
    | some c => some c
    | none => blk n b
  | .cond _ a b => match blk n a with
    | some c => some c
    | none => blk n b
  | .loop c => blk n c
  | .scope c => blk n c
  | _ => none

theorem run_make (t : TypeId) (w : World) : (Instr.makeMap t none).run Yba.prog w = .ok (.map (some w.heap.size)) (w.alloc (.map #[] 0)) := rfl

end Go.Proofs.Ybulkdjcm
