/-
  THE FRAME 'all but the blocks of S stands' (Ot), AND WHAT A SORT OF POINTS LEANS ON: a 'less' that may lay blocks, a 'swap' of two elements of two cells.
-/
import Derived.Test.YbulkdjggFmtRows
import Derived.Shelf.SlSortFuncK.WholeK
import Derived.WalkKit
import Derived.WalkSpells
import Derived.WalkLawsBesides
import Derived.BigQuiet
import Derived.BigRegion
namespace Go.Proofs.YbulkdjggFmt
open Go.RowKit Go.Sort

theorem hide {p : Prop} (h : p) : Hid p := h
theorem below_alloc (w : World) (o : Obj) : Below w.heap.size w (w.alloc o) := (Below.refl _ _).alloc (Nat.le_refl _) o

/-- Of the blocks of w, all but those of S stand in w'. -/
structure Ot (S : Nat → Prop) (w w' : World) : Prop where
  os : w'.os = w.os
  tape : w'.tape = w.tape
  output : w'.output = w.output
  size : w.heap.size ≤ w'.heap.size
  block : ∀ k, k < w.heap.size → ¬ S k → w'.heap[k]? = w.heap[k]?

section
variable {S T : Nat → Prop} {w w' w1 w2 : World}
theorem Ot.refl (S : Nat → Prop) (w : World) : Ot S w w := ⟨rfl, rfl, rfl, Nat.le_refl _, fun _ _ _ => rfl⟩
theorem Ot.trans (h : Ot S w w1) (k : Ot S w1 w2) : Ot S w w2 :=
  ⟨k.os.trans h.os, k.tape.trans h.tape, k.output.trans h.output, Nat.le_trans h.size k.size, fun i hi hs => (k.block i (Nat.lt_of_lt_of_le hi h.size) hs).trans (h.block i hi hs)⟩
/-- The second step's blocks are of S or new. -/
theorem Ot.step (h : Ot S w w1) (k : Ot T w1 w2) (hT : ∀ i, T i → i < w.heap.size → S i) : Ot S w w2 :=
  ⟨k.os.trans h.os, k.tape.trans h.tape, k.output.trans h.output, Nat.le_trans h.size k.size, fun i hi hs => (k.block i (Nat.lt_of_lt_of_le hi h.size) (fun ht => hs (hT i ht hi))).trans (h.block i hi hs)⟩
theorem Ot.mono (h : Ot S w w') (hT : ∀ i, S i → i < w.heap.size → T i) : Ot T w w' := ⟨h.os, h.tape, h.output, h.size, fun i hi hs => h.block i hi (fun k => hs (hT i k hi))⟩
theorem Ot.of_below (S : Nat → Prop) (h : Below w.heap.size w w') : Ot S w w' := ⟨h.os, h.tape, h.output, h.size, fun i hi _ => h.block i hi⟩
theorem Ot.below (h : Ot S w w') {B : Nat} (hB : B ≤ w.heap.size) (hS : ∀ i, S i → B ≤ i) : Below B w w' := ⟨h.os, h.tape, h.output, h.size, fun i hi => h.block i (by omega) (fun k => by have := hS i k; omega)⟩
theorem Ot.alloc (h : Ot S w w') (o : Obj) : Ot S w (w'.alloc o) := h.step (Ot.of_below (fun _ => False) (below_alloc w' o)) (fun _ k _ => k.elim)
theorem Ot.drewN (h : Ot S w w') (q : Nat) : Ot S w (w'.drewN q) := ⟨h.os, h.tape, h.output, h.size, h.block⟩
theorem Ot.drew (h : Ot S w w') : Ot S w w'.drew := ⟨h.os, h.tape, h.output, h.size, h.block⟩
theorem Ot.setCell (h : Ot S w w') {p : Addr} (hp : p.block < w.heap.size → S p.block) (u : Value) : Ot S w (w'.setCell p u) :=
  h.step (T := fun i => i = p.block) ⟨rfl, rfl, rfl, by simp [World.setCell], fun k _ hk => Below.heap_setCell _ _ _ _ hk⟩ (fun i hi hl => by subst hi; exact hp hl)
theorem Ot.cell (h : Ot S w w') {p : Addr} (hp : p.block < w.heap.size) (hs : ¬ S p.block) : w'.cell? p = w.cell? p := World.cell?_of_block (w := w) (h.block p.block hp hs)
theorem Ot.cellv (h : Ot S w w') {p : Addr} {v : Value} (hv : w.cell? p = some v) (hs : ¬ S p.block) : w'.cell? p = some v := (h.cell (World.block_lt_of_cell? _ _ hv) hs).trans hv
theorem Ot.frozen (h : Ot S w w') {p : Addr} (hp : p.block < w.heap.size) (hs : ¬ S p.block) : w'.frozen? p = w.frozen? p := World.frozen?_of_block (w := w) (h.block p.block hp hs)
end

theorem ot_setCells (b : Nat) : ∀ (vs : List Value) (o : Nat) (w : World), Ot (fun k => k = b) w (w.setCells b o vs)
  | [], _, w => Ot.refl _ w
  | v :: r, o, w => by
    rw [World.setCells]
    exact ((Ot.refl (fun k => k = b) w).setCell (fun _ => rfl) v).trans (ot_setCells b r (o + 1) _)

/-- A point's cells: the position, the node's number. -/
abbrev Pt := Nat × Nat
def enc (x : Pt) : List Value := [.int .u64 x.1, .int .i64 x.2]
theorem enc_len (x : Pt) : (enc x).length = 2 := rfl

/-- What 'less' leans on besides the row (p), and what holds of each element (q). -/
structure Ctx where
  p : World → Prop
  q : Pt → Prop

/-- WHAT IS ASKED OF THE SORT's TWO FUNCTIONS: 'less' (func 22, bound to l0, l1) answers by lt and may lay new blocks; 'swap' (func sf, bound to s0, s1) swaps. Cx: what 'less' leans on besides the row; it lies below block B. -/
structure Srt (blk off size B : Nat) (lt : Pt → Pt → Bool) (l0 l1 : Value) (sf : Nat) (s0 s1 : Value) (Cx : Ctx) : Prop where
  keep : ∀ W W', Cx.p W → Ot (fun k => k = blk ∨ B ≤ k) W W' → Cx.p W'
  less : ∀ (W : World) (d : Array Pt) (i j : Nat), Cx.p W → HoldsK enc 2 W blk off d → d.size = size → (∀ t, t < size → Cx.q d[t]!) → i < size → j < size →
    Calls Ybaf.prog 22 #[.int .i64 i, .int .i64 j, l0, l1] W fun e w' => e = .returned (.bool (lt d[i]! d[j]!)) ∧ Below W.heap.size W w'
  swap : SwapSwapsK Ybaf.prog sf #[s0, s1] enc 2 blk off size
  small : size < 4611686018427387904
  low : blk < B

/-- The row holds d. -/
structure Sv (blk off size B : Nat) (Cx : Ctx) (W : World) (d : Array Pt) : Prop where
  cx : Cx.p W
  row : HoldsK enc 2 W blk off d
  len : d.size = size
  big : B ≤ W.heap.size
  ok : ∀ t, t < size → Cx.q d[t]!

section
variable {blk off size B : Nat} {lt : Pt → Pt → Bool} {l0 l1 : Value} {sf : Nat} {s0 s1 : Value} {Cx : Ctx} {W W' : World} {d : Array Pt}

theorem holds_ot {S : Nat → Prop} (h : HoldsK enc 2 W blk off d) (ho : Ot S W W') (hs : ¬ S blk) : HoldsK enc 2 W' blk off d := fun j hj => by
  have h1 := h j hj
  have hl := World.block_lt_of_cell? _ _ h1.1
  exact ⟨ho.cellv h1.1 hs, (ho.frozen (p := ⟨blk, off + j, none⟩) hl hs).trans h1.2⟩

theorem Sv.ot (h : Sv blk off size B Cx W d) (hS : Srt blk off size B lt l0 l1 sf s0 s1 Cx) {S : Nat → Prop} (ho : Ot S W W') (hs : ∀ k, S k → B ≤ k) : Sv blk off size B Cx W' d :=
  ⟨hS.keep W W' h.cx (ho.mono (fun k hk _ => .inr (hs k hk))), holds_ot h.row ho (fun k => by have := hs blk k; have := hS.low; omega), h.len, Nat.le_trans h.big ho.size, h.ok⟩

theorem Sv.below (h : Sv blk off size B Cx W d) (hS : Srt blk off size B lt l0 l1 sf s0 s1 Cx) (hb : Below W.heap.size W W') : Sv blk off size B Cx W' d :=
  h.ot hS (Ot.of_below (fun _ => False) hb) (fun _ h => h.elim)

theorem Sv.lessAt (h : Sv blk off size B Cx W d) (hS : Srt blk off size B lt l0 l1 sf s0 s1 Cx) (i j : Nat) (hi : i < size) (hj : j < size) :
    Calls Ybaf.prog 22 #[.int .i64 i, .int .i64 j, l0, l1] W fun e w' => e = .returned (.bool (lt d[i]! d[j]!)) ∧ Sv blk off size B Cx w' d ∧ Below W.heap.size W w' :=
  (hS.less W d i j h.cx h.row h.len h.ok hi hj).mono fun _ _ ⟨h1, h2⟩ => ⟨h1, h.below hS h2, h2⟩

theorem Sv.swapAt (h : Sv blk off size B Cx W d) (hS : Srt blk off size B lt l0 l1 sf s0 s1 Cx) (i j : Nat) (hi : i < size) (hj : j < size) :
    ∃ w', (callFunc sf #[.int .i64 i, .int .i64 j, s0, s1]).run Ybaf.prog W = .ok (.value (.tuple #[])) w' ∧ Sv blk off size B Cx w' (swp d i j) ∧ Ot (fun k => k = blk) W w' := by
  have hr := hS.swap W d h.row h.len i j hi hj
  have ho : Ot (fun k => k = blk) W ((W.setCells blk (off + i * 2) (enc d[j]!)).setCells blk (off + j * 2) (enc d[i]!)) := (ot_setCells blk _ _ _).trans (ot_setCells blk _ _ _)
  refine ⟨_, hr, ⟨hS.keep W _ h.cx (ho.mono (fun k hk _ => .inl hk)), ?_, by rw [size_swp]; exact h.len, Nat.le_trans h.big ho.size, ?_⟩, ho⟩
  rotate_left
  · have hl := h.len
    have hp := swp_permIn d 0 d.size i j (Nat.zero_le _) (by omega) (Nat.zero_le _) (by omega) (Nat.le_refl _)
    exact fun t ht => permIn_all d _ 0 d.size Cx.q (Nat.le_refl _) hp (fun u _ hu => h.ok u (by omega)) t (Nat.zero_le _) (by omega)
  have h1 := putRowK_swp enc 2 enc_len W blk off d i j (by rw [h.len]; exact hi) (by rw [h.len]; exact hj)
  rw [putRowK_self enc 2 W blk off d h.row] at h1
  rw [h1]
  exact holdsK_putRowK enc 2 W blk off d _ h.row (size_swp _ _ _)
end

end Go.Proofs.YbulkdjggFmt
