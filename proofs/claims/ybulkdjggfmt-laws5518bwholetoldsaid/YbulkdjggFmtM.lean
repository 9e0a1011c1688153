/-
  (*Ring).before (23).
-/
import Derived.Test.YbulkdjggFmtA
import Derived.Deep.RegionHeld3
import Derived.BigQuiet
namespace Go.Proofs.YbulkdjggFmt
open Go.RowKit Go.Sort

theorem below_drewN {B : Nat} {w w' : World} (h : Below B w w') (q : Nat) : Below B w (w'.drewN q) := ⟨h.os, h.tape, h.output, h.size, h.block⟩
theorem unhide {p : Prop} (h : Hid p) : p := h
theorem below_next {w8 a w' : World} (h : Below w8.heap.size w8 a) (hb : Below a.heap.size a w') : Below w8.heap.size w8 w' := h.trans (hb.mono h.size)

/-- The law's four node names. -/
def nm (i : Nat) : ByteArray := ⟨match i with | 0 => #[97] | 1 => #[98] | 2 => #[99] | _ => #[100]⟩

/-- The ring's order: by position, then by node. -/
def ltP (x y : Pt) : Bool := decide (x.1 < y.1) || (decide (x.1 = y.1) && decide (x.2 < y.2))

theorem ltP_swo : SWO ltP := by
  refine ⟨fun x => by simp [ltP], fun x y z h1 h2 => ?_, fun x y z h1 h2 => ?_⟩
  · simp only [ltP, Bool.or_eq_true, Bool.and_eq_true, decide_eq_true_eq] at h1 h2 ⊢
    omega
  · simp only [ltP, Bool.or_eq_false_iff, Bool.and_eq_false_iff, decide_eq_false_iff_not] at h1 h2 ⊢
    omega

theorem nm_list (i : Nat) : (nm i).toList = (match i with | 0 => [97] | 1 => [98] | 2 => [99] | _ => [100]) := by
  unfold nm
  split <;> simp [ByteArray.toList, ByteArray.toList.loop, ByteArray.size, ByteArray.get!]

theorem nm_less (i j : Nat) (hi : i < 4) (hj : j < 4) : Op.bytesLess (nm i).toList (nm j).toList = decide (i < j) := by
  rw [nm_list, nm_list]
  match i, j, hi, hj with
  | 0, 0, _, _ => rfl
  | 0, 1, _, _ => rfl
  | 0, 2, _, _ => rfl
  | 0, 3, _, _ => rfl
  | 1, 0, _, _ => rfl
  | 1, 1, _, _ => rfl
  | 1, 2, _, _ => rfl
  | 1, 3, _, _ => rfl
  | 2, 0, _, _ => rfl
  | 2, 1, _, _ => rfl
  | 2, 2, _, _ => rfl
  | 2, 3, _, _ => rfl
  | 3, 0, _, _ => rfl
  | 3, 1, _, _ => rfl
  | 3, 2, _, _ => rfl
  | 3, 3, _, _ => rfl

set_option maxHeartbeats 1000000 in
set_option maxRecDepth 100000 in
theorem before_at (R nb n cn : Nat) (x y : Pt) (W : World) (hn : n ≤ 4) (h1 : W.cell? ⟨R, 0, none⟩ = some (.slice (some ⟨nb, 0, none⟩) n cn)) (h2 : ∀ i, i < n → W.cell? ⟨nb, i, none⟩ = some (.string (nm i))) (hx : x.2 < n) (hy : y.2 < n) :
    Calls Ybaf.prog 23 #[.pointer (some ⟨R, 0, none⟩), .agg #[.int .u64 x.1, .int .i64 x.2], .agg #[.int .u64 y.1, .int .i64 y.2]] W fun e w' => e = .returned (.bool (ltP x y)) ∧ Below W.heap.size W w' := by
  obtain ⟨x1, x2⟩ := x
  obtain ⟨y1, y2⟩ := y
  dsimp only at hx hy ⊢
  have HB := hide (((Below.refl W.heap.size W).alloc (Nat.le_refl _) (.cells #[.int .u64 x1, .int .i64 x2] 41)).alloc (by simp) (.cells #[.int .u64 y1, .int .i64 y2] 41))
  go_enter Ybaf.func23, Ybaf.ntmps23
  by_cases he : x1 = y1
  · subst he
    have hb1 : W.cell? ⟨nb, x2, none⟩ = some (.string (nm x2)) := h2 x2 hx
    have hb2 : W.cell? ⟨nb, y2, none⟩ = some (.string (nm y2)) := h2 y2 hy
    have hl1 := World.block_lt_of_cell? _ _ h1
    have hl2 := World.block_lt_of_cell? _ _ hb1
    dsimp only at hl1 hl2
    have hxi : (x2 : Int) < n := by omega
    have hyi : (y2 : Int) < n := by omega
    go_upto_region 3 with (fail)
    clear h2
    go_quiet (fail)
    go_wp2
    go_ret
    refine ⟨?_, below_drewN HB.out _⟩
    show Ending.returned (.bool (Op.bytesLess (nm x2).toList (nm y2).toList)) = _
    rw [nm_less x2 y2 (by omega) (by omega)]
    simp [ltP]
  · have hei : ¬ (x1 : Int) = y1 := by omega
    go_wp2
    go_ret
    refine ⟨?_, HB.out⟩
    show Ending.returned (.bool (decide (x1 < y1))) = _
    simp [ltP, he]

theorem row_at {W : World} {blk off i : Nat} {d : Array Pt} (h : HoldsK enc 2 W blk off d) (hi : i < d.size) :
    W.cell? ⟨blk, off + i * 2, none⟩ = some (.int .u64 d[i]!.1) ∧ W.cell? ⟨blk, off + i * 2 + 1, none⟩ = some (.int .i64 d[i]!.2) :=
  ⟨(h.cell (c := 0) hi (by omega)).1, (h.cell (c := 1) hi (by omega)).1⟩

/-- What the closure of sortPoints leans on: the boxes of 'r' and of 'points', the ring's slice of nodes, the nodes. -/
structure PCx (b0 b1 R nb n cn blk off size cap : Nat) (W : World) : Prop where
  c0 : W.cell? ⟨b0, 0, none⟩ = some (.pointer (some ⟨R, 0, none⟩))
  c1 : W.cell? ⟨b1, 0, none⟩ = some (.slice (some ⟨blk, off, none⟩) size cap)
  r0 : W.cell? ⟨R, 0, none⟩ = some (.slice (some ⟨nb, 0, none⟩) n cn)
  ns : ∀ i, i < n → W.cell? ⟨nb, i, none⟩ = some (.string (nm i))

set_option maxHeartbeats 1000000 in
set_option maxRecDepth 100000 in
theorem less_at (b0 b1 R nb n cn blk off size cap : Nat) (W : World) (hn : n ≤ 4) (hc : PCx b0 b1 R nb n cn blk off size cap W) (d : Array Pt) (i j : Nat) (hr : HoldsK enc 2 W blk off d) (hd : d.size = size) (hq : ∀ t, t < size → d[t]!.2 < n) (hi : i < size) (hj : j < size) :
    Calls Ybaf.prog 22 #[.int .i64 i, .int .i64 j, .pointer (some ⟨b0, 0, none⟩), .pointer (some ⟨b1, 0, none⟩)] W fun e w' => e = .returned (.bool (ltP d[i]! d[j]!)) ∧ Below W.heap.size W w' := by
  have hi1 := row_at hr (show i < d.size by omega)
  have hj1 := row_at hr (show j < d.size by omega)
  have hii : (i : Int) < size := by omega
  have hji : (j : Int) < size := by omega
  have HS : Hid (∀ W', Below W.heap.size W W' → Below W.heap.size W W' ∧ W'.cell? ⟨b0, 0, none⟩ = some (.pointer (some ⟨R, 0, none⟩)) ∧ W'.cell? ⟨b1, 0, none⟩ = some (.slice (some ⟨blk, off, none⟩) size cap) ∧
      W'.cell? ⟨blk, off + i * 2, none⟩ = some (.int .u64 d[i]!.1) ∧ W'.cell? ⟨blk, off + i * 2 + 1, none⟩ = some (.int .i64 d[i]!.2) ∧ W'.cell? ⟨blk, off + j * 2, none⟩ = some (.int .u64 d[j]!.1) ∧ W'.cell? ⟨blk, off + j * 2 + 1, none⟩ = some (.int .i64 d[j]!.2)) := fun W' hb => by
    have hk : ∀ {p v}, W.cell? p = some v → W'.cell? p = some v := fun {p v} h => (hb.cell (World.block_lt_of_cell? _ _ h)).trans h
    exact ⟨hb, hk hc.c0, hk hc.c1, hk hi1.1, hk hi1.2, hk hj1.1, hk hj1.2⟩
  have HL : Hid (∀ W', Below W.heap.size W W' → Calls Ybaf.prog 23 #[.pointer (some ⟨R, 0, none⟩), .agg #[.int .u64 d[i]!.1, .int .i64 d[i]!.2], .agg #[.int .u64 d[j]!.1, .int .i64 d[j]!.2]] W' fun e w' => e = .returned (.bool (ltP d[i]! d[j]!)) ∧ Below W'.heap.size W' w') := fun W' hb => by
    have hk : ∀ {p v}, W.cell? p = some v → W'.cell? p = some v := fun {p v} h => (hb.cell (World.block_lt_of_cell? _ _ h)).trans h
    exact before_at R nb n cn d[i]! d[j]! W' hn (hk hc.r0) (fun t ht => hk (hc.ns t ht)) (hq i hi) (hq j hj)
  obtain ⟨s0, s1, s2, s3, s4, s5, s6⟩ := unhide HS W (Below.refl _ _)
  clear hi1 hj1 hc hr
  generalize ltP d[i]! d[j]! = L at *
  generalize d[i]!.1 = x1 at *
  generalize d[i]!.2 = x2 at *
  generalize d[j]!.1 = y1 at *
  generalize d[j]!.2 = y2 at *
  go_enter Ybaf.func22, Ybaf.ntmps22
  go_upto_region 1 with (fail)
  go_region_held3 (fun W' => Below W.heap.size W W' ∧ W'.cell? ⟨b0, 0, none⟩ = some (.pointer (some ⟨R, 0, none⟩)) ∧ W'.cell? ⟨b1, 0, none⟩ = some (.slice (some ⟨blk, off, none⟩) size cap) ∧
      W'.cell? ⟨blk, off + i * 2, none⟩ = some (.int .u64 x1) ∧ W'.cell? ⟨blk, off + i * 2 + 1, none⟩ = some (.int .i64 x2) ∧ W'.cell? ⟨blk, off + j * 2, none⟩ = some (.int .u64 y1) ∧ W'.cell? ⟨blk, off + j * 2 + 1, none⟩ = some (.int .i64 y2))
    ((refine unhide HS _ ?_; go_split_ands; first | assumption | exact Below.drew (by assumption)))
    (first
      | (go_at_call 23; refine (unhide HL _ (by go_split_ands; assumption)).mono ?_; rintro e w' ⟨rfl, hb⟩; go_split_ands; have hb' : Below W.heap.size W w' := below_next (by assumption) hb; clear hb))
  all_goals
    go_wp2_with fail
    go_ret
    refine ⟨rfl, ?_⟩
    go_split_ands
    assumption

end Go.Proofs.YbulkdjggFmt
