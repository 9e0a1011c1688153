import Derived.Test.YbulkdjfsDoorRows
import Derived.Deep.RegionHeld3
namespace Go.Proofs.YbulkdjfsDoor

/-- The operations of a region, by its number. -/
def regionOf (id : Nat) : Code → Option (Array Oper)
  | .region j ops _ => if j == id then some ops else none
  | .seq a b => match regionOf id a with
    | some o => some o
    | none => regionOf id b
  | .block _ c => regionOf id c
  | .scope c => regionOf id c
  | _ => none

def opsOf (f : Func) (id : Nat) : List Oper := ((f.body.bind (regionOf id)).getD #[]).toList

theorem ops12_length : (opsOf Ybad.f12 1).length = 98 := by kernel_rfl

/-- The first i of n have come up. -/
def mask (n i : Nat) : Array Bool := ((List.range n).map (fun j => decide (j < i))).toArray

theorem mask_zero (n : Nat) : Array.replicate n false = mask n 0 := by
  apply Array.ext_getElem?
  intro j
  simp [mask, Array.getElem?_replicate]
  by_cases h : j < n <;> simp [h]

theorem mask_succ (n i : Nat) : (mask n i).setIfInBounds i true = mask n (i + 1) := by
  apply Array.ext_getElem?
  intro j
  rw [Array.getElem?_setIfInBounds]
  simp only [mask, List.getElem?_toArray, List.getElem?_map, List.size_toArray, List.length_map, List.length_range]
  by_cases h : j < n
  · rw [List.getElem?_range h]
    by_cases e : i = j
    · subst e; simp [h]
    · simp [e]; omega
  · rw [List.getElem?_eq_none (by simp; omega)]
    simp; omega

theorem fr0 : ([0, 1, 2, 3, 4, 5, 6, 7, 9, 10, 11, 12] : List Nat).all (fun i => Region.free .any (opsOf Ybad.f12 1).toArray (mask 98 i) i && (Region.ready .any (opsOf Ybad.f12 1).toArray (mask 98 i)).contains i) = true := by kernel_rfl
theorem fr1 : ([13, 14, 15, 16, 17, 18, 19, 20, 21, 22, 23, 24] : List Nat).all (fun i => Region.free .any (opsOf Ybad.f12 1).toArray (mask 98 i) i && (Region.ready .any (opsOf Ybad.f12 1).toArray (mask 98 i)).contains i) = true := by kernel_rfl
theorem fr2 : ([25, 26, 27, 28, 30, 31, 32, 33, 34, 35, 36, 37] : List Nat).all (fun i => Region.free .any (opsOf Ybad.f12 1).toArray (mask 98 i) i && (Region.ready .any (opsOf Ybad.f12 1).toArray (mask 98 i)).contains i) = true := by kernel_rfl
theorem fr3 : ([38, 39, 41, 42, 43, 44, 45, 46, 47, 48, 49, 50] : List Nat).all (fun i => Region.free .any (opsOf Ybad.f12 1).toArray (mask 98 i) i && (Region.ready .any (opsOf Ybad.f12 1).toArray (mask 98 i)).contains i) = true := by kernel_rfl
theorem fr4 : ([52, 53, 54, 55, 56, 57, 58, 59, 60, 61, 62, 63] : List Nat).all (fun i => Region.free .any (opsOf Ybad.f12 1).toArray (mask 98 i) i && (Region.ready .any (opsOf Ybad.f12 1).toArray (mask 98 i)).contains i) = true := by kernel_rfl
theorem fr5 : ([64, 65, 66, 67, 68, 69, 70, 71, 72, 73, 74, 75] : List Nat).all (fun i => Region.free .any (opsOf Ybad.f12 1).toArray (mask 98 i) i && (Region.ready .any (opsOf Ybad.f12 1).toArray (mask 98 i)).contains i) = true := by kernel_rfl
theorem fr6 : ([76, 77, 78, 79, 80, 81, 82, 83, 84, 85, 86, 87] : List Nat).all (fun i => Region.free .any (opsOf Ybad.f12 1).toArray (mask 98 i) i && (Region.ready .any (opsOf Ybad.f12 1).toArray (mask 98 i)).contains i) = true := by kernel_rfl
theorem fr7 : ([88, 89, 90, 91, 92, 93, 94, 95, 96, 97] : List Nat).all (fun i => Region.free .any (opsOf Ybad.f12 1).toArray (mask 98 i) i && (Region.ready .any (opsOf Ybad.f12 1).toArray (mask 98 i)).contains i) = true := by kernel_rfl
theorem rd8 : Region.ready .any (opsOf Ybad.f12 1).toArray (mask 98 8) = [8] := by kernel_rfl
theorem rd29 : Region.ready .any (opsOf Ybad.f12 1).toArray (mask 98 29) = [29] := by kernel_rfl
theorem rd40 : Region.ready .any (opsOf Ybad.f12 1).toArray (mask 98 40) = [40] := by kernel_rfl
theorem rd51 : Region.ready .any (opsOf Ybad.f12 1).toArray (mask 98 51) = [51] := by kernel_rfl
theorem rdEnd : Region.ready .any (opsOf Ybad.f12 1).toArray (mask 98 98) = [] := by kernel_rfl
theorem ns12 : Region.noSelect (opsOf Ybad.f12 1).toArray = true := by kernel_rfl

end Go.Proofs.YbulkdjfsDoor
