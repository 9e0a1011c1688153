import Derived.Test.YbulkdjcmRows
import Derived.WalkKit
import Derived.WalkSpells
import Derived.WalkLawsBesides
import Derived.BigQuiet
namespace Go.Proofs.Ybulkdjcm
open Go.RowKit

/-- The name of index i (0..7). -/
def nm (i : Nat) : ByteArray := ⟨#[UInt8.ofNat (97 + i)]⟩

set_option maxHeartbeats 400000 in
theorem name_any (i : Nat) (hi : i < 8) (w : World) :
    Calls Yba.prog 4 #[.int .i64 i] w fun e w' => e = .returned (.string (nm i)) ∧ w' = w := by
  have : i = 0 ∨ i = 1 ∨ i = 2 ∨ i = 3 ∨ i = 4 ∨ i = 5 ∨ i = 6 ∨ i = 7 := by omega
  rcases this with rfl | rfl | rfl | rfl | rfl | rfl | rfl | rfl <;>
  · go_enter Yba.func4, Yba.ntmps4
    go_wp2
    go_ret
    exact ⟨rfl, rfl⟩

end Go.Proofs.Ybulkdjcm
