/-
  PLAIN: what an arc of the split node gives. No Go in sight.
-/
import Derived.Test.YbulkdjggFmtQ
namespace Go.Proofs.YbulkdjggFmt

abbrev U64 : Int := 18446744073709551616
/-- a - b, as a uint64. -/
def sub64 (a b : Nat) : Nat := (((a : Int) - b) % U64).toNat
/-- a + b, as a uint64. -/
def add64 (a b : Nat) : Nat := (((a : Int) + b) % U64).toNat

theorem sub64_int (a b : Nat) : IntKind.u64.wrap ((a : Int) - b) = (sub64 a b : Nat) := by
  simp only [IntKind.wrap_u64, sub64, U64]; omega
theorem add64_int (a b : Nat) : IntKind.u64.wrap ((a : Int) + b) = (add64 a b : Nat) := by
  simp only [IntKind.wrap_u64, add64, U64]; omega
theorem sub64_lt (a b : Nat) : sub64 a b < 18446744073709551616 := by unfold sub64 U64; omega
theorem add64_lt (a b : Nat) : add64 a b < 18446744073709551616 := by unfold add64 U64; omega

/-- Sorted. -/
def srt (l : List Nat) : List Nat := l.mergeSort fun a b => decide (a ≤ b)
theorem srt_asc (l : List Nat) : (srt l).Pairwise (· ≤ ·) := by
  have := List.pairwise_mergeSort (le := fun a b : Nat => decide (a ≤ b)) (fun a b c h1 h2 => by simp at *; omega) (fun a b => by simp; omega) l
  exact this.imp (fun h => by simpa using h)
theorem srt_perm (l : List Nat) : (srt l).Perm l := List.mergeSort_perm l _
theorem asc_unique {a b : List Nat} (ha : a.Pairwise (· ≤ ·)) (hb : b.Pairwise (· ≤ ·)) (h : a.Perm b) : a = b :=
  h.eq_of_pairwise (fun _ _ _ _ h1 h2 => Nat.le_antisymm h1 h2) ha hb
theorem srt_of {a l : List Nat} (ha : a.Pairwise (· ≤ ·)) (h : a.Perm l) : a = srt l := asc_unique ha (srt_asc l) (h.trans (srt_perm l).symm)

/-- The middle, rounded down. -/
def midP (start lo hi : Nat) : Nat := add64 (add64 (add64 start 1) lo) ((hi - lo) / 2)

/-- The new node's point in an arc, where there is room for one. -/
def pickP (start last : Nat) (l : List Nat) (m : Nat) : Option Nat :=
  if last = 0 then none else
  if m < l.length then
    if l.getD m 0 = 0 then none else
    if min (last - 1) (l.getD m 0 - 1) < (if 0 < m then l.getD (m - 1) 0 else 0) then none
    else some (midP start (if 0 < m then l.getD (m - 1) 0 else 0) (min (last - 1) (l.getD m 0 - 1)))
  else if last - 1 < (if 0 < m then l.getD (m - 1) 0 else 0) then none
  else some (midP start (if 0 < m then l.getD (m - 1) 0 else 0) (last - 1))

/-- How many keys of an arc go. -/
def takeP (k : Nat) (r : Bool) : Nat := if k % 2 = 1 ∧ r = true then (k + 1) / 2 else k / 2

/-- One arc. -/
def stp (skip : Nat → Bool) (off : Nat → List Nat) (st lst : Nat → Nat) (i : Nat) (s : List Nat × Bool) : List Nat × Bool :=
  if skip i then s else
    (s.1 ++ (pickP (st i) (lst i) (off i) (takeP (off i).length s.2)).toList, if (off i).length % 2 = 1 then !s.2 else s.2)

/-- The arcs from i on, so many. -/
def stps (skip : Nat → Bool) (off : Nat → List Nat) (st lst : Nat → Nat) : Nat → Nat → List Nat × Bool → List Nat × Bool
  | 0, _, s => s
  | n + 1, i, s => stps skip off st lst n (i + 1) (stp skip off st lst i s)

/-- The split's points: which points are passed over, the offsets of each arc. -/
def lastP (pts : Array Pt) (i : Nat) : Nat := sub64 (sub64 pts[i]!.1 (arc pts i)) 1
def skipP (isU : Nat → Bool) (pts : Array Pt) (i : Nat) : Bool := !isU pts[i]!.2 || (decide (1 < pts.size) && decide (arc pts i = pts[i]!.1))
def offM (pts : Array Pt) (hs : List Nat) (i : Nat) : List Nat := srt ((hs.map fun h => sub64 (sub64 h (arc pts i)) 1).filter fun d => decide (d ≤ lastP pts i))
def offS (pts : Array Pt) (hs : List Nat) (i : Nat) : List Nat := srt ((hs.filter fun h => decide (fnd pts h = i)).map fun h => sub64 (sub64 h (arc pts i)) 1)

theorem stps_skip {skip : Nat → Bool} {off : Nat → List Nat} {st lst : Nat → Nat} {N i : Nat} {s : List Nat × Bool} (hi : i < N) (h : skip i = true) : stps skip off st lst (N - i) i s = stps skip off st lst (N - (i + 1)) (i + 1) s := by
  rw [show N - i = (N - (i + 1)) + 1 by omega, stps, stp, if_pos h]
theorem stps_go {skip : Nat → Bool} {off : Nat → List Nat} {st lst : Nat → Nat} {N i : Nat} {os : List Nat} {r : Bool} (hi : i < N) (h : skip i = false) :
    stps skip off st lst (N - i) i (os, r) = stps skip off st lst (N - (i + 1)) (i + 1) (os ++ (pickP (st i) (lst i) (off i) (takeP (off i).length r)).toList, if (off i).length % 2 = 1 then !r else r) := by
  rw [show N - i = (N - (i + 1)) + 1 by omega, stps, stp, if_neg (by simp [h])]

theorem filt_yes {f : Nat → Nat} {p : Nat → Bool} {hs ys ins : List Nat} {j : Nat} (hj : j < hs.length) (hp : p (f (hs.getD j 0)) = true) (h1 : ys.Perm (f (hs.getD j 0) :: ins)) (h2 : ins.Perm (((hs.take j).map f).filter p)) : ys.Perm (((hs.take (j + 1)).map f).filter p) := by
  rw [List.take_succ_eq_append_getElem hj, List.map_append, List.filter_append]
  have : hs.getD j 0 = hs[j] := by simp [List.getD_eq_getElem?_getD, hj]
  rw [this] at hp h1
  simp only [List.map_cons, List.map_nil, List.filter_cons, hp, if_true, List.filter_nil]
  refine h1.trans ((List.Perm.cons _ h2).trans ?_)
  exact (List.perm_append_singleton _ _).symm
theorem filt_no {f : Nat → Nat} {p : Nat → Bool} {hs ins : List Nat} {j : Nat} (hj : j < hs.length) (hp : p (f (hs.getD j 0)) = false) (h2 : ins.Perm (((hs.take j).map f).filter p)) : ins.Perm (((hs.take (j + 1)).map f).filter p) := by
  rw [List.take_succ_eq_append_getElem hj, List.map_append, List.filter_append]
  have : hs.getD j 0 = hs[j] := by simp [List.getD_eq_getElem?_getD, hj]
  rw [this] at hp
  simpa [List.filter_cons, hp] using h2
theorem offM_len (pts : Array Pt) (hs : List Nat) (i : Nat) : (offM pts hs i).length ≤ hs.length := by
  unfold offM
  rw [(srt_perm _).length_eq]
  exact Nat.le_trans (List.length_filter_le _ _) (by simp)

theorem getD_lt {l : List Nat} {B : Nat} (hB : 0 < B) (h : ∀ x ∈ l, x < B) (t : Nat) : l.getD t 0 < B := by
  rw [List.getD_eq_getElem?_getD]
  cases hg : l[t]? with
  | none => exact hB
  | some x => exact h x (List.mem_of_getElem? hg)
theorem offM_lt (pts : Array Pt) (hs : List Nat) (i t : Nat) : (offM pts hs i).getD t 0 < 18446744073709551616 := by
  refine getD_lt (by omega) (fun x hx => ?_) t
  have := (srt_perm _).mem_iff.1 hx
  obtain ⟨h1, _⟩ := List.mem_filter.1 this
  obtain ⟨h, _, rfl⟩ := List.mem_map.1 h1
  exact sub64_lt _ _

def loP (l : List Nat) (m : Nat) : Nat := if 0 < m then l.getD (m - 1) 0 else 0
def hiP (last : Nat) (l : List Nat) (m : Nat) : Nat := if m < l.length then min (last - 1) (l.getD m 0 - 1) else last - 1
theorem pick_last0 (st : Nat) (l : List Nat) (m : Nat) : pickP st 0 l m = none := by simp [pickP]
theorem pick_zero {st L m : Nat} {l : List Nat} (h : m < l.length) (h0 : l.getD m 0 = 0) : pickP st L l m = none := by
  unfold pickP
  rw [if_pos h, if_pos h0]
  split <;> rfl
theorem pick_val {st L m : Nat} {l : List Nat} (hL : L ≠ 0) (h : m < l.length → l.getD m 0 ≠ 0) : pickP st L l m = if hiP L l m < loP l m then none else some (midP st (loP l m) (hiP L l m)) := by
  unfold pickP hiP loP
  rw [if_neg hL]
  by_cases hm : m < l.length
  · rw [if_pos hm, if_neg (h hm), if_pos hm]
  · rw [if_neg hm, if_neg hm]
theorem takeP_le (k : Nat) (r : Bool) : takeP k r ≤ k := by unfold takeP; split <;> omega

end Go.Proofs.YbulkdjggFmt
