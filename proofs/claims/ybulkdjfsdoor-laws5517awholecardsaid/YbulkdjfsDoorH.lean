import Derived.Test.YbulkdjfsDoorG
import Derived.Deep.CutBlock
namespace Go.Proofs.YbulkdjfsDoor
open Go.RowKit
open Fl (R Out Nan Same)
attribute [local go_sem] run_store_flt

/-- A slice of uint32 that came in. -/
def Arg32 (w : World) (a : Option Addr) (len : Nat) : Prop :=
  len = 0 ∨ ∃ b off, ∃ zs : List Int, a = some ⟨b, off, none⟩ ∧ b < w.heap.size ∧
    (∀ j, j < len → w.cell? ⟨b, off + j, none⟩ = some (.int .u32 (zs.getD j 0))) ∧ ∀ j, 0 ≤ zs.getD j 0 ∧ zs.getD j 0 < 4294967296

/-- One more count is stored. -/
theorem DemOK.set {C : Array Value} {ta tb : Int} (h : DemOK C ta tb) (q : Nat) (hq : 3 ≤ q) (z : Int) (h0 : 0 ≤ z) (h1 : z < 4294967296) : DemOK (C.setIfInBounds q (.int .u32 z)) ta tb := by
  refine ⟨by simpa using h.size, ?_, ?_, ?_, fun i h3 hi => ?_⟩
  · rw [Array.getElem?_setIfInBounds, if_neg (by omega)]; exact h.c0
  · rw [Array.getElem?_setIfInBounds, if_neg (by omega)]; exact h.c1
  · rw [Array.getElem?_setIfInBounds, if_neg (by omega)]; exact h.c2
  · rw [Array.getElem?_setIfInBounds]
    by_cases e : q = i
    · subst e
      refine ⟨z.toNat, by omega, ?_⟩
      rw [if_pos rfl, if_pos (by rw [h.size]; exact hi), Int.toNat_of_nonneg h0]
    · rw [if_neg e]; exact h.u32 i h3 hi

/-- The demand's block while it is filled; what lies below is as it was. -/
structure Fil (w0 wr : World) (b : Nat) (C : Array Value) (ta tb : Int) : Prop where
  blk : wr.heap[b]? = some (.cells C 41 (0, 0))
  ok : DemOK C ta tb
  below : Below b w0 wr

theorem Fil.cell {w0 wr : World} {b : Nat} {C : Array Value} {ta tb : Int} (h : Fil w0 wr b C ta tb) (q : Nat) : wr.cell? ⟨b, q, none⟩ = C[q]? := Lib.cell_of_heap h.blk q
theorem Fil.frozen {w0 wr : World} {b : Nat} {C : Array Value} {ta tb : Int} (h : Fil w0 wr b C ta tb) (q : Nat) : wr.frozen? ⟨b, q, none⟩ = false := Lib.frozen_of_heap h.blk q

theorem Fil.set {w0 wr : World} {b : Nat} {C : Array Value} {ta tb : Int} (h : Fil w0 wr b C ta tb) (q : Nat) (hq : 3 ≤ q) (z : Int) (h0 : 0 ≤ z) (h1 : z < 4294967296) : Fil w0 (wr.setCell ⟨b, q, none⟩ (.int .u32 z)) b (C.setIfInBounds q (.int .u32 z)) ta tb :=
  ⟨heap_setCell_same _ _ _ _ _ _ h.blk, h.ok.set q hq z h0 h1, h.below.setCell (p := ⟨b, q, none⟩) (Nat.le_refl _) _⟩

theorem Fil.drewN {w0 wr : World} {b : Nat} {C : Array Value} {ta tb : Int} (h : Fil w0 wr b C ta tb) (n : Nat) : Fil w0 (wr.drewN n) b C ta tb := ⟨h.blk, h.ok, below_drewN h.below n⟩

/-- The argument's cells. -/
def stCells (nc : Bool) (gr sh : Nat) (mf : Int) (cn : Bool) (cg cs bg bs cr : Nat) (lf lm st lt : Int) (cur prev : Value) : Array Value :=
  #[.bool nc, .int .u64 gr, .float .f64 sh, .int .i64 mf, .bool cn, .int .u64 cg, .float .f64 cs, .int .u64 bg, .float .f64 bs, .float .f64 cr, .int .i64 lf, .int .i64 lm, .int .i64 st, .int .i64 lt, cur, prev]

/-- The argument's count at place g. -/
theorem Fil.arg {w w0 wr : World} {b : Nat} {C : Array Value} {ta tb : Int} (h : Fil w0 wr b C ta tb) (hb : Below w.heap.size w w0) (hs : w.heap.size ≤ b) {a : Option Addr} {len g : Nat} (ha : Arg32 w a len) (hg : g < len) :
    ∃ bb off, ∃ z : Int, a = some ⟨bb, off, none⟩ ∧ wr.cell? ⟨bb, off + g, none⟩ = some (.int .u32 z) ∧ 0 ≤ z ∧ z < 4294967296 := by
  rcases ha with rfl | ⟨bb, off, zs, rfl, hbb, hc, hz⟩
  · omega
  · refine ⟨bb, off, zs.getD g 0, rfl, ?_, (hz g).1, (hz g).2⟩
    rw [h.below.cell (p := ⟨bb, off + g, none⟩) (by simp; omega), hb.cell (p := ⟨bb, off + g, none⟩) hbb]
    exact hc g hg

/-- A cut in a block of its own. -/
structure Cut (w : World) (b k s : Nat) : Prop where
  lt : b < w.heap.size
  le : k ≤ 640
  c0 : w.cell? ⟨b, 0, none⟩ = some (.int .i64 k)
  c1 : w.cell? ⟨b, 1, none⟩ = some (.float .f64 s)

theorem Cut.below {w w' : World} {b k s : Nat} (h : Cut w b k s) (hb : Below w.heap.size w w') : Cut w' b k s :=
  ⟨Nat.lt_of_lt_of_le h.lt hb.size, h.le, (hb.cell (p := ⟨b, 0, none⟩) h.lt).trans h.c0, (hb.cell (p := ⟨b, 1, none⟩) h.lt).trans h.c1⟩

theorem Fil.grow {w0 wr w' : World} {b : Nat} {C : Array Value} {ta tb : Int} (h : Fil w0 wr b C ta tb) (hb : Below wr.heap.size wr w') : Fil w0 w' b C ta tb := by
  have hlt : b < wr.heap.size := by
    have := h.blk
    rw [Array.getElem?_eq_some_iff] at this
    exact this.1
  exact ⟨(hb.block b hlt).trans h.blk, h.ok, h.below.trans (hb.mono (Nat.le_of_lt hlt))⟩

theorem Cut.new (w : World) (g : Int) (s : Nat) : ∃ k : Nat, Cut (w.alloc (.cells #[.int .i64 (g % 641), .float .f64 s] 30)) w.heap.size k s := by
  refine ⟨(g % 641).toNat, by simp, by omega, ?_, ?_⟩
  · have : ((g % 641).toNat : Int) = g % 641 := by omega
    rw [this]; simp
  · simp

theorem Fil.lt {w0 wr : World} {b : Nat} {C : Array Value} {ta tb : Int} (h : Fil w0 wr b C ta tb) : b < wr.heap.size := by
  have := h.blk
  rw [Array.getElem?_eq_some_iff] at this
  exact this.1

/-- What stands while the shedder is put together: the argument's box, the demand and the cuts so far. -/
def Kept (b1 : Nat) (w w' : World) : Prop := ∀ q, w'.cell? ⟨b1, q, none⟩ = w.cell? ⟨b1, q, none⟩

theorem cell_block_other {w : World} {b b' q q' : Nat} {v : Value} (hb : b ≠ b') : (w.setCell ⟨b', q', none⟩ v).cell? ⟨b, q, none⟩ = w.cell? ⟨b, q, none⟩ :=
  World.cell?_setCell_other _ _ _ _ (fun e => hb (by injection e with e; exact e.symm))

theorem Fil.setOther {w0 wr : World} {b b' q : Nat} {C : Array Value} {ta tb : Int} (h : Fil w0 wr b C ta tb) (hb : b < b') (v : Value) : Fil w0 (wr.setCell ⟨b', q, none⟩ v) b C ta tb :=
  ⟨(heap_setCell_other _ _ _ _ (by simp; omega)).trans h.blk, h.ok, h.below.setCell (p := ⟨b', q, none⟩) (by simp; omega) v⟩

theorem Cut.setOther {w : World} {b b' q k s : Nat} (h : Cut w b k s) (hb : b ≠ b') (v : Value) : Cut (w.setCell ⟨b', q, none⟩ v) b k s :=
  ⟨by simpa using h.lt, h.le, by rw [cell_block_other hb]; exact h.c0, by rw [cell_block_other hb]; exact h.c1⟩

theorem Cut.put {w : World} {b k s : Nat} (h : Cut w b k s) : Cut ((w.setCell ⟨b, 0, none⟩ (.int .i64 640)).setCell ⟨b, 1, none⟩ (.float .f64 4607182418800017408)) b 640 4607182418800017408 :=
  ⟨by simpa using h.lt, by omega, (World.cell?_setCell_other _ _ _ _ (by simp)).trans (World.cell?_setCell_same _ _ _ h.c0), World.cell?_setCell_same _ _ _ ((World.cell?_setCell_other _ _ _ _ (by simp)).trans h.c1)⟩

theorem Kept.set {b1 b' q : Nat} {w w' : World} (h : Kept b1 w w') (hb : b1 ≠ b') (v : Value) : Kept b1 w (w'.setCell ⟨b', q, none⟩ v) := fun q => by rw [cell_block_other hb]; exact h q
theorem kept_below {b1 : Nat} {w w' : World} (h : Below w.heap.size w w') (hb : b1 < w.heap.size) : Kept b1 w w' := fun q => h.cell (p := ⟨b1, q, none⟩) hb

theorem at_agg (n : Int) (w : World) (h0 : -9223372036854775808 ≤ n) (h1 : n ≤ 9223372036854775807) :
    Calls Ybad.prog 6 #[.int .i64 n] w fun e w' => e = .returned (.agg #[.int .u64 (tmW n), .int .i64 (tmE n), .pointer none]) ∧ Below w.heap.size w w' := at_any n w h0 h1

theorem below_next {w8 a w' : World} (h : Below w8.heap.size w8 a) (hb : Below a.heap.size a w') : Below w8.heap.size w8 w' := h.trans (hb.mono h.size)

theorem hu41 : Ybad.prog.underlying 41 = some (Ybad.prog.underlying 41).get! := by kernel_rfl

/-- A new shedder: its cells. -/
structure Sh (D C : Array Value) (k s : Nat) (mf : Int) (k3 s3 k5 s5 cr : Nat) (lf lm lt ta tb : Int) : Prop where
  size : D.size = 1304
  le : k ≤ 640
  d0 : D[0]? = some (.int .i64 k)
  d1 : D[1]? = some (.float .f64 s)
  d2 : D[2]? = some (.int .i64 mf)
  d3 : D[3]? = some (.int .i64 k3)
  d4 : D[4]? = some (.float .f64 s3)
  d5 : D[5]? = some (.int .i64 k5)
  d6 : D[6]? = some (.float .f64 s5)
  d7 : D[7]? = some (.float .f64 cr)
  d8 : D[8]? = some (.int .u64 (tmW lf))
  d9 : D[9]? = some (.int .i64 (tmE lf))
  d10 : D[10]? = some (.pointer none)
  d11 : D[11]? = some (.int .u64 (tmW lm))
  d12 : D[12]? = some (.int .i64 (tmE lm))
  d13 : D[13]? = some (.pointer none)
  d14 : D[14]? = some (.int .i64 lt)
  dr : ∀ i, D[15 + i]? = C[i]?
  ok : DemOK C ta tb

/-- A shedder newly made. -/
structure Made (w w' : World) (B : Nat) (D C : Array Value) (k s : Nat) (mf : Int) (k3 s3 k5 s5 cr : Nat) (lf lm lt ta tb : Int) : Prop where
  new : w.heap.size ≤ B
  blk : w'.heap[B]? = some (.cells D 43 (0, 0))
  sh : Sh D C k s mf k3 s3 k5 s5 cr lf lm lt ta tb
  below : Below w.heap.size w w'

/-- 'wpAnyH_take' for a region written out as a list. -/
theorem takeL {l : List Oper} {Q : Exit → Act → World → Prop} {S : World → Prop} {md : Region.Mode} (i : Nat) (v : Value) {oi : Oper} {fuel : Nat} {listed : Array Bool} {a : Act} {w : World} (hi : l[i]? = some oi)
    (hs : Region.noSelect l.toArray = true) (hf : Region.free md l.toArray listed i = true) (hr : (Region.ready md l.toArray listed).contains i = true)
    (hQ : ∀ c a w, Q (.panic c) (a.put oi.dst v) w → Q (.panic c) a w) (hS : S w) (hy : YieldsIf Ybad.prog l.toArray S oi v a)
    (h : wpAnyH Ybad.prog md l.toArray Q S fuel (listed.setIfInBounds i true) (a.put oi.dst v) w) : wpAnyH Ybad.prog md l.toArray Q S (fuel + 1) listed a w :=
  wpAnyH_take (by simpa using hi) hs hf hr hQ hy hS h

/-- One operation alone may come up. -/
theorem oneL {l : List Oper} {Q : Exit → Act → World → Prop} {S : World → Prop} {md : Region.Mode} (i : Nat) {oi : Oper} {fuel : Nat} {listed : Array Bool} {a : Act} {w : World} (hi : l[i]? = some oi) (hr : Region.ready md l.toArray listed = [i])
    (h : ∀ K' : Act → World → Prop, Shut (∀ a w, S w → (S w → wpAnyH Ybad.prog md l.toArray Q S fuel (listed.setIfInBounds i true) a w) → K' a w) → if Region.wanted oi (yielded l.toArray a.tmps) = true then Oper.wp Ybad.prog oi a w K' Q else K' (a.put oi.dst undef) w) :
    wpAnyH Ybad.prog md l.toArray Q S (fuel + 1) listed a w :=
  wpAnyH_ready hr (by simp) (AllReadyH.cons (by simpa using hi) h AllReadyH.nil)

/-- The demand is read whole, in a region that draws its order. -/
theorem load41 {ops : Array Oper} {S : World → Prop} {op : Oper} {a : Act} {x : Operand} (ho : op.op = .load 41 x) (hg : Region.wanted op (yielded ops a.tmps) = true) (b : Nat) (hx : a.eval x = .pointer (some ⟨b, 0, none⟩)) (C : Array Value) (hC : C.size = 1289)
    (hS : ∀ W, S W → W.heap[b]? = some (.cells C 41 (0, 0))) : YieldsIf Ybad.prog ops S op (.agg C) a := by
  have hl : C.toList.length = 1289 := by simpa using hC
  have := yieldsIf_load_mid (P := Ybad.prog) (S := S) hg 41 x ho b 0 hx C.toList _ (fun W h j v hv => by rw [Lib.cell_of_heap (hS W h), Nat.zero_add]; simpa using hv) hu41 (by kernel_rfl) (by rw [hl]; kernel_rfl)
  simpa using this

theorem yields_build {ops : Array Oper} {S : World → Prop} {op : Oper} {a : Act} {t : TypeId} {parts : Array (Nat × Operand)} {v : Value} (ho : op.op = .build t parts) (hg : Region.wanted op (yielded ops a.tmps) = true)
    (vals : Array (Nat × Value)) (hv : parts.map (fun (i, x) => (i, a.eval x)) = vals) (hD : ∀ W, (Instr.build t vals).run Ybad.prog W = .ok v W) : YieldsIf Ybad.prog ops S op v a :=
  .inl ⟨hg, fun W _ => by unfold execOp; simp only [ho, hv, Sem.run_bind, hD, Result.andThen_ok, Sem.run_pure]⟩

theorem run_box43 (D : Array Value) (W : World) : (Instr.box 43 (.agg D)).run Ybad.prog W = .ok (.pointer (some ⟨W.heap.size, 0, none⟩)) (W.alloc (.cells D 43)) := by
  simp [Instr.box, newVar, Value.cells, go_sem]

theorem fil_start {w0 w1 : World} {Z : Array Value} {st : Int} {b : Nat} (hs0 : w0.heap.size = b) (hZ : DemOK Z 0 0) (hb : Below (w0.alloc (.cells Z 41)).heap.size (w0.alloc (.cells Z 41)) w1) :
    ∃ C, Fil w0 (((w1.setCell ⟨b, 0, none⟩ (.int .u64 (tmW st))).setCell ⟨b, 1, none⟩ (.int .i64 (tmE st))).setCell ⟨b, 2, none⟩ (.pointer none)) b C (tmW st) (tmE st) := by
  subst hs0
  have hs : w0.heap.size < (w0.alloc (.cells Z 41)).heap.size := by simp
  have h1 : w1.heap[w0.heap.size]? = some (.cells Z 41 (0, 0)) := by rw [hb.block _ hs]; exact heap_alloc_new _ _
  have hbl : Below w0.heap.size w0 w1 := ((Below.refl _ _).alloc (Nat.le_refl _) _).trans (hb.mono (by simp))
  refine ⟨_, heap_setCell_same _ _ _ _ _ _ (heap_setCell_same _ _ _ _ _ _ (heap_setCell_same _ _ _ _ _ _ h1)), ⟨by simpa using hZ.size, ?_, ?_, ?_, fun i h3 hi => ?_⟩, ((hbl.setCell (p := ⟨_, _, none⟩) (Nat.le_refl _) _).setCell (p := ⟨_, _, none⟩) (Nat.le_refl _) _).setCell (p := ⟨_, _, none⟩) (Nat.le_refl _) _⟩
  all_goals simp only [Array.getElem?_setIfInBounds, Array.size_setIfInBounds, hZ.size]
  · simp
  · simp
  · simp
  · rw [if_neg (by omega), if_neg (by omega), if_neg (by omega)]; exact hZ.u32 i h3 hi

set_option maxHeartbeats 400000 in
theorem nocut_any (w : World) : Calls Ybad.prog 11 #[] w fun e w' => e = .returned (.agg #[.int .i64 640, .float .f64 4607182418800017408]) ∧ Below w.heap.size w w' := by
  go_enter Ybad.func11, Ybad.ntmps11
  go_wp2_with fail
  exact bodyPost_ret (v := .agg #[.int .i64 640, .float .f64 4607182418800017408]) (by simp [results, Ybad.results11, go_sem]) rfl ⟨rfl, ((Below.refl _ _).alloc (Nat.le_refl _) _)⟩

set_option maxHeartbeats 1600000 in
set_option maxRecDepth 100000 in
theorem build_any (nc : Bool) (gr sh : Nat) (mf : Int) (cn : Bool) (cg cs bg bs cr : Nat) (lf lm st lt : Int) (a1 a2 : Option Addr) (l1 l2 p1 p2 : Nat) (w : World)
    (hst0 : -9223372036854775808 ≤ st) (hst1 : st ≤ 9223372036854775807) (hlf0 : -9223372036854775808 ≤ lf) (hlf1 : lf ≤ 9223372036854775807) (hlm0 : -9223372036854775808 ≤ lm) (hlm1 : lm ≤ 9223372036854775807) (h1 : Arg32 w a1 l1) (h2 : Arg32 w a2 l2) :
    Calls Ybad.prog 5 #[.agg #[.bool nc, .int .u64 gr, .float .f64 sh, .int .i64 mf, .bool cn, .int .u64 cg, .float .f64 cs, .int .u64 bg, .float .f64 bs, .float .f64 cr, .int .i64 lf, .int .i64 lm, .int .i64 st, .int .i64 lt, .slice a1 l1 p1, .slice a2 l2 p2]] w fun e w' =>
      ∃ B D C k s k3 s3 k5, e = .returned (.pointer (some ⟨B, 0, none⟩)) ∧ Made w w' B D C k s mf k3 s3 k5 bs cr lf lm lt (tmW st) (tmE st) := by
  obtain ⟨Z, hz, hZ⟩ := zero41
  have HZ := hide hZ
  clear hZ
  have H1 := hide h1
  have H2 := hide h2
  clear h1 h2
  go_enter Ybad.func5, Ybad.ntmps5
  go_wp2_with fail
  obtain ⟨w0, hw0⟩ : ∃ w0, w0 = w.alloc (.cells #[.bool nc, .int .u64 gr, .float .f64 sh, .int .i64 mf, .bool cn, .int .u64 cg, .float .f64 cs, .int .u64 bg, .float .f64 bs, .float .f64 cr, .int .i64 lf, .int .i64 lm, .int .i64 st, .int .i64 lt, .slice a1 l1 p1, .slice a2 l2 p2] 26) := ⟨_, rfl⟩
  have hs0 : w0.heap.size = w.heap.size + 1 := by rw [hw0]; simp
  rw [← hw0]
  have B0 : w0.cell? ⟨w.heap.size, 0, none⟩ = some (.bool nc) := by rw [hw0]; simp
  have B1 : w0.cell? ⟨w.heap.size, 1, none⟩ = some (.int .u64 gr) := by rw [hw0]; simp
  have B2 : w0.cell? ⟨w.heap.size, 2, none⟩ = some (.float .f64 sh) := by rw [hw0]; simp
  have B3 : w0.cell? ⟨w.heap.size, 3, none⟩ = some (.int .i64 mf) := by rw [hw0]; simp
  have B4 : w0.cell? ⟨w.heap.size, 4, none⟩ = some (.bool cn) := by rw [hw0]; simp
  have B5 : w0.cell? ⟨w.heap.size, 5, none⟩ = some (.int .u64 cg) := by rw [hw0]; simp
  have B6 : w0.cell? ⟨w.heap.size, 6, none⟩ = some (.float .f64 cs) := by rw [hw0]; simp
  have B7 : w0.cell? ⟨w.heap.size, 7, none⟩ = some (.int .u64 bg) := by rw [hw0]; simp
  have B8 : w0.cell? ⟨w.heap.size, 8, none⟩ = some (.float .f64 bs) := by rw [hw0]; simp
  have B9 : w0.cell? ⟨w.heap.size, 9, none⟩ = some (.float .f64 cr) := by rw [hw0]; simp
  have B10 : w0.cell? ⟨w.heap.size, 10, none⟩ = some (.int .i64 lf) := by rw [hw0]; simp
  have B11 : w0.cell? ⟨w.heap.size, 11, none⟩ = some (.int .i64 lm) := by rw [hw0]; simp
  have B13 : w0.cell? ⟨w.heap.size, 13, none⟩ = some (.int .i64 lt) := by rw [hw0]; simp
  have B14 : w0.cell? ⟨w.heap.size, 14, none⟩ = some (.slice a1 l1 p1) := by rw [hw0]; simp
  have B15 : w0.cell? ⟨w.heap.size, 15, none⟩ = some (.slice a2 l2 p2) := by rw [hw0]; simp
  have hbw : Below w.heap.size w w0 := by rw [hw0]; exact (Below.refl _ _).alloc (Nat.le_refl _) _
  have HBW := hide hbw
  have HBs := hide (And.intro B0 (And.intro B1 (And.intro B2 (And.intro B3 (And.intro B4 (And.intro B5 (And.intro B6 (And.intro B7 (And.intro B8 (And.intro B9 (And.intro B10 (And.intro B11 B13))))))))))))
  clear hw0 hbw B0 B1 B2 B3 B4 B5 B6 B7 B8 B9 B10 B11 B13
  refine (at_any st _ hst0 hst1).mono ?_
  rintro e w1 ⟨rfl, hb1⟩
  have c0 := hb1.cell (p := ⟨w0.heap.size, 0, none⟩) (by simp)
  have c1 := hb1.cell (p := ⟨w0.heap.size, 1, none⟩) (by simp)
  have c2 := hb1.cell (p := ⟨w0.heap.size, 2, none⟩) (by simp)
  have f0 := hb1.frozen (p := ⟨w0.heap.size, 0, none⟩) (by simp)
  have f1 := hb1.frozen (p := ⟨w0.heap.size, 1, none⟩) (by simp)
  have f2 := hb1.frozen (p := ⟨w0.heap.size, 2, none⟩) (by simp)
  simp [HZ.out.c0, HZ.out.c1, HZ.out.c2] at c0 c1 c2 f0 f1 f2
  rw [hs0] at c0 c1 c2 f0 f1 f2
  obtain ⟨C0, hC0⟩ := fil_start (st := st) hs0 HZ.out hb1
  obtain ⟨w2, hw2⟩ : ∃ w2, w2 = ((w1.setCell ⟨w.heap.size + 1, 0, none⟩ (.int .u64 (tmW st))).setCell ⟨w.heap.size + 1, 1, none⟩ (.int .i64 (tmE st))).setCell ⟨w.heap.size + 1, 2, none⟩ (.pointer none) := ⟨_, rfl⟩
  rw [← hw2] at hC0
  have HC0 := hide hC0
  clear hb1 hC0
  unfold tm
  go_upto_block 0 with (fail)
  go_cut [4] (fun i wr => ∃ C, Fil w0 wr (w.heap.size + 1) C (tmW st) (tmE st))
  case first =>
    go_wp2_with fail
    rw [← hw2]
    clear hw2 c0 c1 c2 f0 f1 f2
    go_loopw [4] (fun i wr => ∃ g : Nat, g ≤ 641 ∧ g ≤ l1 ∧ i = .int .i64 g ∧ ∃ C, Fil w0 wr (w.heap.size + 1) C (tmW st) (tmE st)) (fun i _ => 700 - (intOf i).toNat)
    case atStart => exact ⟨0, by omega, by omega, rfl, C0, HC0.out⟩
    case round =>
      obtain ⟨g, hg, hgl, rfl, C, hC⟩ := hrel
      have b14 := (hC.below.cell (p := ⟨w.heap.size, 14, none⟩) (by simp)).trans B14
      by_cases hlt : g < l1 ∧ g < 641
      · obtain ⟨hlt1, hlt2⟩ := hlt
        have i0 : (g : Int) ≤ 640 := by omega
        have i1 : (0 : Int) ≤ (g : Int) := by omega
        obtain ⟨bb, off, z, rfl, cz, z0, z1⟩ := hC.arg HBW.out (by omega) H1.out hlt1
        obtain ⟨x, hx, cx⟩ := hC.ok.u32 (3 + g) (by omega) (by omega)
        have cc := (hC.cell (3 + g)).trans cx
        have ff := hC.frozen (3 + g)
        have HF := hide hC
        clear hC cx
        go_wp2_with fail
        go_roundw
        case rel => exact ⟨g + 1, by omega, by omega, by go_num, _, HF.out.set (3 + g) (by omega) z z0 z1⟩
        case measure => simp [intOf]; omega
      · by_cases hl : g < l1
        · have : g = 641 := by omega
          subst this
          have HF := hide hC
          clear hC
          go_wp2_with fail
          go_meet
          exact ⟨_, HF.out⟩
        · have hl' : (l1 : Int) ≤ (g : Int) := by omega
          have HF := hide hC
          clear hC
          go_wp2_with fail
          go_meet
          exact ⟨_, HF.out⟩
  case rest =>
    obtain ⟨C1, hC1⟩ := hcut
    have HC1 := hide hC1
    clear hC1 hw2 c0 c1 c2 f0 f1 f2 B14
    go_upto_block 2 with (fail)
    go_cut [5] (fun i wr => ∃ C, Fil w0 wr (w.heap.size + 1) C (tmW st) (tmE st))
    case first =>
      go_wp2_with fail
      go_loopw [5] (fun i wr => ∃ g : Nat, g ≤ 641 ∧ g ≤ l2 ∧ i = .int .i64 g ∧ ∃ C, Fil w0 wr (w.heap.size + 1) C (tmW st) (tmE st)) (fun i _ => 700 - (intOf i).toNat)
      case atStart => exact ⟨0, by omega, by omega, rfl, C1, HC1.out⟩
      case round =>
        obtain ⟨g, hg, hgl, rfl, C, hC⟩ := hrel
        have b15 := (hC.below.cell (p := ⟨w.heap.size, 15, none⟩) (by simp)).trans B15
        by_cases hlt : g < l2 ∧ g < 641
        · obtain ⟨hlt1, hlt2⟩ := hlt
          have i0 : (g : Int) ≤ 640 := by omega
          have i1 : (0 : Int) ≤ (g : Int) := by omega
          obtain ⟨bb, off, z, rfl, cz, z0, z1⟩ := hC.arg HBW.out (by omega) H2.out hlt1
          obtain ⟨x, hx, cx⟩ := hC.ok.u32 (646 + g) (by omega) (by omega)
          have cc := (hC.cell (646 + g)).trans cx
          have ff := hC.frozen (646 + g)
          have HF := hide hC
          clear hC cx
          go_wp2_with fail
          go_roundw
          case rel => exact ⟨g + 1, by omega, by omega, by go_num, _, HF.out.set (646 + g) (by omega) z z0 z1⟩
          case measure => simp [intOf]; omega
        · by_cases hl : g < l2
          · have : g = 641 := by omega
            subst this
            have HF := hide hC
            clear hC
            go_wp2_with fail
            go_meet
            exact ⟨_, HF.out⟩
          · have hl' : (l2 : Int) ≤ (g : Int) := by omega
            have HF := hide hC
            clear hC
            go_wp2_with fail
            go_meet
            exact ⟨_, HF.out⟩
    case rest =>
      obtain ⟨C2, hC2⟩ := hcut
      obtain ⟨B0, B1, B2, B3, B4, B5, B6, B7, B8, B9, B10, B11, B13⟩ := HBs.out
      have kk : ∀ q, wc.cell? ⟨w.heap.size, q, none⟩ = w0.cell? ⟨w.heap.size, q, none⟩ := fun q => hC2.below.cell (p := ⟨w.heap.size, q, none⟩) (by simp)
      rw [← kk] at B0 B1 B2 B3 B4 B5 B6 B7 B8 B9 B10 B11 B13
      have hsz := hC2.lt
      obtain ⟨k6, hcut6⟩ := Cut.new wc (gr : Int) sh
      have hCg := hC2.grow ((Below.refl _ wc).alloc (Nat.le_refl _) (.cells #[.int .i64 ((gr : Int) % 641), .float .f64 sh] 30))
      have bb := (Below.refl wc.heap.size wc).alloc (Nat.le_refl _) (.cells #[.int .i64 ((gr : Int) % 641), .float .f64 sh] 30)
      have kk2 : ∀ q, (wc.alloc (.cells #[.int .i64 ((gr : Int) % 641), .float .f64 sh] 30)).cell? ⟨w.heap.size, q, none⟩ = wc.cell? ⟨w.heap.size, q, none⟩ := fun q => bb.cell (p := ⟨w.heap.size, q, none⟩) (by simp; omega)
      obtain ⟨w3, hw3⟩ : ∃ w3, w3 = wc.alloc (.cells #[.int .i64 ((gr : Int) % 641), .float .f64 sh] 30) := ⟨_, rfl⟩
      have ff : ∀ q, w3.frozen? ⟨wc.heap.size, q, none⟩ = false := fun q => by rw [hw3]; simp
      rw [← hw3] at hcut6 hCg kk2
      have HC2 := hide hCg
      have HK := hide hcut6
      clear hC2 kk B15 hCg bb hcut6
      go_upto_region 12 with (fail)
      rw [← hw3]
      clear hw3
      rw [← kk2] at B0 B1 B2 B3 B4 B5 B6 B7 B8 B9 B10 B11 B13
      have f0 := ff 0
      have f1 := ff 1
      clear kk2 ff
      generalize wc.heap.size = b6 at *
      have hlt6 := HK.out.lt
      go_upto_if 61 with (fail)
      go_cut [61] (fun _ wr => ∃ k s, Cut wr b6 k s ∧ Fil w0 wr (w.heap.size + 1) C2 (tmW st) (tmE st) ∧ Kept w.heap.size w3 wr)
      case first =>
        cases nc
        · go_wp2_with fail
          go_meet
          exact ⟨_, _, HK.out, HC2.out, fun q => rfl⟩
        · go_wp2_with fail
          refine (nocut_any w3).mono ?_
          rintro e w4 ⟨rfl, hb4⟩
          have g0 := hb4.frozen (p := ⟨b6, 0, none⟩) hlt6
          have g1 := hb4.frozen (p := ⟨b6, 1, none⟩) hlt6
          rw [f0] at g0
          rw [f1] at g1
          have d0 := (HK.out.below hb4).c0
          have d1 := (HK.out.below hb4).c1
          have HB4 := hide hb4
          clear hb4
          go_wp2_with fail
          go_meet
          exact ⟨_, _, (HK.out.below HB4.out).put, ((HC2.out.grow HB4.out).setOther (by omega) _).setOther (by omega) _, ((kept_below HB4.out (by omega)).set (by omega) _).set (by omega) _⟩
      case rest =>
        obtain ⟨k6, s6, hc6, hC3, hk3⟩ := hcut
        rw [← hk3] at B3 B4 B5 B6 B7 B8 B9 B10 B11 B13
        have HC6 := hide hc6
        have HF3 := hide hC3
        clear hc6 hC3 hk3 f0 f1 HK HC2 B0 B1 B2
        have hsz7 := HC6.out.lt
        obtain ⟨k7', hcut7⟩ := Cut.new wc (cg : Int) cs
        have bb := (Below.refl wc.heap.size wc).alloc (Nat.le_refl _) (.cells #[.int .i64 ((cg : Int) % 641), .float .f64 cs] 30)
        obtain ⟨w5, hw5⟩ : ∃ w5, w5 = wc.alloc (.cells #[.int .i64 ((cg : Int) % 641), .float .f64 cs] 30) := ⟨_, rfl⟩
        have ff : ∀ q, w5.frozen? ⟨wc.heap.size, q, none⟩ = false := fun q => by rw [hw5]; simp
        rw [← hw5] at hcut7 bb
        have hCg := HF3.out.grow bb
        have hc6 := HC6.out.below bb
        have kk2 := kept_below bb (b1 := w.heap.size) (by omega)
        clear HF3 HC6
        have HF3 := hide hCg
        have HC6 := hide hc6
        have HC7 := hide hcut7
        clear hCg bb hcut7 hc6
        go_upto_region 15 with (fail)
        rw [← hw5]
        clear hw5
        rw [← kk2] at B3 B4 B5 B6 B7 B8 B9 B10 B11 B13
        have f0 := ff 0
        have f1 := ff 1
        clear kk2 ff
        generalize wc.heap.size = b7 at *
        have hlt7 := HC7.out.lt
        go_upto_if 71 with (fail)
        go_cut [71] (fun _ wr => ∃ k s, Cut wr b7 k s ∧ Cut wr b6 k6 s6 ∧ Fil w0 wr (w.heap.size + 1) C2 (tmW st) (tmE st) ∧ Kept w.heap.size w5 wr)
        case first =>
          cases cn
          · go_wp2_with fail
            go_meet
            exact ⟨_, _, HC7.out, HC6.out, HF3.out, fun q => rfl⟩
          · go_wp2_with fail
            refine (nocut_any w5).mono ?_
            rintro e w6 ⟨rfl, hb4⟩
            have g0 := hb4.frozen (p := ⟨b7, 0, none⟩) hlt7
            have g1 := hb4.frozen (p := ⟨b7, 1, none⟩) hlt7
            rw [f0] at g0
            rw [f1] at g1
            have d0 := (HC7.out.below hb4).c0
            have d1 := (HC7.out.below hb4).c1
            have HB4 := hide hb4
            clear hb4
            go_wp2_with fail
            go_meet
            exact ⟨_, _, (HC7.out.below HB4.out).put, ((HC6.out.below HB4.out).setOther (by omega) _).setOther (by omega) _, ((HF3.out.grow HB4.out).setOther (by omega) _).setOther (by omega) _, ((kept_below HB4.out (by omega)).set (by omega) _).set (by omega) _⟩
        case rest =>
          obtain ⟨k7, s7, hc7, hc6, hC3, hk3⟩ := hcut
          rw [← hk3] at B3 B7 B8 B9 B10 B11 B13
          have hsz8 := hc7.lt
          obtain ⟨k8, hcut8⟩ := Cut.new wc (bg : Int) bs
          have bb := (Below.refl wc.heap.size wc).alloc (Nat.le_refl _) (.cells #[.int .i64 ((bg : Int) % 641), .float .f64 bs] 30)
          obtain ⟨w8, hw8⟩ : ∃ w8, w8 = wc.alloc (.cells #[.int .i64 ((bg : Int) % 641), .float .f64 bs] 30) := ⟨_, rfl⟩
          rw [← hw8] at hcut8 bb
          have hC8 := hC3.grow bb
          have hc68 := hc6.below bb
          have hc78 := hc7.below bb
          have kk2 := kept_below bb (b1 := w.heap.size) (by omega)
          clear HF3 HC6 HC7 hc6 hc7 hC3 hk3 f0 f1 bb
          have HF8 := hide hC8
          have HC6 := hide hc68
          have HC7 := hide hc78
          have HC8 := hide hcut8
          clear hC8 hc68 hc78 hcut8 B4 B5 B6
          go_upto_region 18 with (fail)
          rw [← hw8]
          clear hw8
          rw [← kk2] at B3 B7 B8 B9 B10 B11 B13
          clear kk2 B7 B8
          generalize wc.heap.size = b8 at *
          obtain ⟨D, hD, hDs, hD0, hD1, hD2, hD3, hD4, hD5, hD6, hD7, hD8, hD9, hD10, hD11, hD12, hD13, hD14, hDr⟩ := build43 (.int .i64 k6) (.float .f64 s6) (.int .i64 mf) (.int .i64 k7) (.float .f64 s7) (.int .i64 k8) (.float .f64 bs) (.float .f64 cr) (.int .u64 (tmW lf)) (.int .i64 (tmE lf)) (.pointer none) (.int .u64 (tmW lm)) (.int .i64 (tmE lm)) (.pointer none) (.int .i64 lt) C2 HF8.out.ok.size rfl rfl rfl
          have HDs : Hid (Sh D C2 k6 s6 mf k7 s7 k8 bs cr lf lm lt (tmW st) (tmE st)) := ⟨hDs, HC6.out.le, hD0, hD1, hD2, hD3, hD4, hD5, hD6, hD7, hD8, hD9, hD10, hD11, hD12, hD13, hD14, hDr, HF8.out.ok⟩
          clear hDs hD0 hD1 hD2 hD3 hD4 hD5 hD6 hD7 hD8 hD9 hD10 hD11 hD12 hD13 hD14 hDr
          have HS : Hid (∀ w', Below w8.heap.size w8 w' → Below w8.heap.size w8 w' ∧ w'.cell? ⟨w.heap.size, 3, none⟩ = some (.int .i64 mf) ∧ w'.cell? ⟨w.heap.size, 9, none⟩ = some (.float .f64 cr) ∧ w'.cell? ⟨w.heap.size, 10, none⟩ = some (.int .i64 lf) ∧ w'.cell? ⟨w.heap.size, 11, none⟩ = some (.int .i64 lm) ∧ w'.cell? ⟨w.heap.size, 13, none⟩ = some (.int .i64 lt) ∧
              w'.cell? ⟨b6, 0, none⟩ = some (.int .i64 k6) ∧ w'.cell? ⟨b6, 1, none⟩ = some (.float .f64 s6) ∧ w'.cell? ⟨b7, 0, none⟩ = some (.int .i64 k7) ∧ w'.cell? ⟨b7, 1, none⟩ = some (.float .f64 s7) ∧ w'.cell? ⟨b8, 0, none⟩ = some (.int .i64 k8) ∧ w'.cell? ⟨b8, 1, none⟩ = some (.float .f64 bs) ∧
              w'.heap[w.heap.size + 1]? = some (.cells C2 41 (0, 0))) := fun w' hb => by
            have hl := HC8.out.lt
            have k0 := kept_below hb (b1 := w.heap.size) (by omega)
            have h6 := HC6.out.below hb
            have h7 := HC7.out.below hb
            have h8 := HC8.out.below hb
            exact ⟨hb, (k0 _).trans B3, (k0 _).trans B9, (k0 _).trans B10, (k0 _).trans B11, (k0 _).trans B13, h6.c0, h6.c1, h7.c0, h7.c1, h8.c0, h8.c1, (HF8.out.grow hb).blk⟩
          obtain ⟨s0, s3, s9, s10, s11, s13, s60, s61, s70, s71, s80, s81, sC⟩ := unhide HS w8 (Below.refl _ _)
          clear B3 B9 B10 B11 B13
          refine wp_region_held_drew (S := fun w' => Below w8.heap.size w8 w' ∧ w'.cell? ⟨w.heap.size, 3, none⟩ = some (.int .i64 mf) ∧ w'.cell? ⟨w.heap.size, 9, none⟩ = some (.float .f64 cr) ∧ w'.cell? ⟨w.heap.size, 10, none⟩ = some (.int .i64 lf) ∧ w'.cell? ⟨w.heap.size, 11, none⟩ = some (.int .i64 lm) ∧ w'.cell? ⟨w.heap.size, 13, none⟩ = some (.int .i64 lt) ∧
              w'.cell? ⟨b6, 0, none⟩ = some (.int .i64 k6) ∧ w'.cell? ⟨b6, 1, none⟩ = some (.float .f64 s6) ∧ w'.cell? ⟨b7, 0, none⟩ = some (.int .i64 k7) ∧ w'.cell? ⟨b7, 1, none⟩ = some (.float .f64 s7) ∧ w'.cell? ⟨b8, 0, none⟩ = some (.int .i64 k8) ∧ w'.cell? ⟨b8, 1, none⟩ = some (.float .f64 bs) ∧
              w'.heap[w.heap.size + 1]? = some (.cells C2 41 (0, 0))) (by kernel_rfl) ?_ (fun hHeld => ?_)
          · exact unhide HS _ (Below.refl _ _).drew
          refine takeL 0 (.agg #[.int .i64 k6, .float .f64 s6]) rfl (by kernel_rfl) (by kernel_rfl) (by kernel_rfl) (fun _ _ _ h => h) hHeld ?_ ?_
          · exact Or.inl ⟨by rfl, fun W hSw => by (obtain ⟨t0, t3, t9, t10, t11, t13, t60, t61, t70, t71, t80, t81, tC⟩ := hSw; go_simp)⟩
          simp only [Act.put, List.setIfInBounds_toArray, List.set_cons_zero, List.set_cons_succ]
          refine takeL 1 (.pointer (some ⟨w.heap.size, 3, none⟩)) rfl (by kernel_rfl) (by kernel_rfl) (by kernel_rfl) (fun _ _ _ h => h) hHeld ?_ ?_
          · exact Or.inl ⟨by rfl, fun W hSw => by (obtain ⟨t0, t3, t9, t10, t11, t13, t60, t61, t70, t71, t80, t81, tC⟩ := hSw; go_simp)⟩
          simp only [Act.put, List.setIfInBounds_toArray, List.set_cons_zero, List.set_cons_succ]
          refine takeL 2 (.int .i64 mf) rfl (by kernel_rfl) (by kernel_rfl) (by kernel_rfl) (fun _ _ _ h => h) hHeld ?_ ?_
          · exact Or.inl ⟨by rfl, fun W hSw => by (obtain ⟨t0, t3, t9, t10, t11, t13, t60, t61, t70, t71, t80, t81, tC⟩ := hSw; go_simp)⟩
          simp only [Act.put, List.setIfInBounds_toArray, List.set_cons_zero, List.set_cons_succ]
          refine takeL 3 (.agg #[.int .i64 k7, .float .f64 s7]) rfl (by kernel_rfl) (by kernel_rfl) (by kernel_rfl) (fun _ _ _ h => h) hHeld ?_ ?_
          · exact Or.inl ⟨by rfl, fun W hSw => by (obtain ⟨t0, t3, t9, t10, t11, t13, t60, t61, t70, t71, t80, t81, tC⟩ := hSw; go_simp)⟩
          simp only [Act.put, List.setIfInBounds_toArray, List.set_cons_zero, List.set_cons_succ]
          refine takeL 4 (.agg #[.int .i64 k8, .float .f64 bs]) rfl (by kernel_rfl) (by kernel_rfl) (by kernel_rfl) (fun _ _ _ h => h) hHeld ?_ ?_
          · exact Or.inl ⟨by rfl, fun W hSw => by (obtain ⟨t0, t3, t9, t10, t11, t13, t60, t61, t70, t71, t80, t81, tC⟩ := hSw; go_simp)⟩
          simp only [Act.put, List.setIfInBounds_toArray, List.set_cons_zero, List.set_cons_succ]
          refine takeL 5 (.pointer (some ⟨w.heap.size, 9, none⟩)) rfl (by kernel_rfl) (by kernel_rfl) (by kernel_rfl) (fun _ _ _ h => h) hHeld ?_ ?_
          · exact Or.inl ⟨by rfl, fun W hSw => by (obtain ⟨t0, t3, t9, t10, t11, t13, t60, t61, t70, t71, t80, t81, tC⟩ := hSw; go_simp)⟩
          simp only [Act.put, List.setIfInBounds_toArray, List.set_cons_zero, List.set_cons_succ]
          refine takeL 6 (.float .f64 cr) rfl (by kernel_rfl) (by kernel_rfl) (by kernel_rfl) (fun _ _ _ h => h) hHeld ?_ ?_
          · exact Or.inl ⟨by rfl, fun W hSw => by (obtain ⟨t0, t3, t9, t10, t11, t13, t60, t61, t70, t71, t80, t81, tC⟩ := hSw; go_simp)⟩
          simp only [Act.put, List.setIfInBounds_toArray, List.set_cons_zero, List.set_cons_succ]
          refine takeL 7 (.pointer (some ⟨w.heap.size, 10, none⟩)) rfl (by kernel_rfl) (by kernel_rfl) (by kernel_rfl) (fun _ _ _ h => h) hHeld ?_ ?_
          · exact Or.inl ⟨by rfl, fun W hSw => by (obtain ⟨t0, t3, t9, t10, t11, t13, t60, t61, t70, t71, t80, t81, tC⟩ := hSw; go_simp)⟩
          simp only [Act.put, List.setIfInBounds_toArray, List.set_cons_zero, List.set_cons_succ]
          refine takeL 8 (.int .i64 lf) rfl (by kernel_rfl) (by kernel_rfl) (by kernel_rfl) (fun _ _ _ h => h) hHeld ?_ ?_
          · exact Or.inl ⟨by rfl, fun W hSw => by (obtain ⟨t0, t3, t9, t10, t11, t13, t60, t61, t70, t71, t80, t81, tC⟩ := hSw; go_simp)⟩
          simp only [Act.put, List.setIfInBounds_toArray, List.set_cons_zero, List.set_cons_succ]
          refine takeL 10 (.pointer (some ⟨w.heap.size, 11, none⟩)) rfl (by kernel_rfl) (by kernel_rfl) (by kernel_rfl) (fun _ _ _ h => h) hHeld ?_ ?_
          · exact Or.inl ⟨by rfl, fun W hSw => by (obtain ⟨t0, t3, t9, t10, t11, t13, t60, t61, t70, t71, t80, t81, tC⟩ := hSw; go_simp)⟩
          simp only [Act.put, List.setIfInBounds_toArray, List.set_cons_zero, List.set_cons_succ]
          refine takeL 11 (.int .i64 lm) rfl (by kernel_rfl) (by kernel_rfl) (by kernel_rfl) (fun _ _ _ h => h) hHeld ?_ ?_
          · exact Or.inl ⟨by rfl, fun W hSw => by (obtain ⟨t0, t3, t9, t10, t11, t13, t60, t61, t70, t71, t80, t81, tC⟩ := hSw; go_simp)⟩
          simp only [Act.put, List.setIfInBounds_toArray, List.set_cons_zero, List.set_cons_succ]
          refine takeL 13 (.pointer (some ⟨w.heap.size, 13, none⟩)) rfl (by kernel_rfl) (by kernel_rfl) (by kernel_rfl) (fun _ _ _ h => h) hHeld ?_ ?_
          · exact Or.inl ⟨by rfl, fun W hSw => by (obtain ⟨t0, t3, t9, t10, t11, t13, t60, t61, t70, t71, t80, t81, tC⟩ := hSw; go_simp)⟩
          simp only [Act.put, List.setIfInBounds_toArray, List.set_cons_zero, List.set_cons_succ]
          refine takeL 14 (.int .i64 lt) rfl (by kernel_rfl) (by kernel_rfl) (by kernel_rfl) (fun _ _ _ h => h) hHeld ?_ ?_
          · exact Or.inl ⟨by rfl, fun W hSw => by (obtain ⟨t0, t3, t9, t10, t11, t13, t60, t61, t70, t71, t80, t81, tC⟩ := hSw; go_simp)⟩
          simp only [Act.put, List.setIfInBounds_toArray, List.set_cons_zero, List.set_cons_succ]
          refine takeL 15 (.agg C2) rfl (by kernel_rfl) (by kernel_rfl) (by kernel_rfl) (fun _ _ _ h => h) hHeld ?_ ?_
          · exact load41 rfl rfl (w.heap.size + 1) rfl C2 HF8.out.ok.size (fun W hSw => hSw.2.2.2.2.2.2.2.2.2.2.2.2)
          simp only [Act.put, List.setIfInBounds_toArray, List.set_cons_zero, List.set_cons_succ]
          refine oneL 9 rfl (by kernel_rfl) (fun K hK => ?_)
          go_simp
          refine (at_agg lf _ hlf0 hlf1).mono ?_
          rintro e w9 ⟨rfl, hb⟩
          go_wp2_with fail
          refine hK.out _ _ (unhide HS _ (below_next hHeld.1 hb)) (fun hHeld2 => ?_)
          clear hHeld hK
          have hHeld := hHeld2
          clear hHeld2 hb
          refine oneL 12 rfl (by kernel_rfl) (fun K hK => ?_)
          go_simp
          refine (at_agg lm _ hlm0 hlm1).mono ?_
          rintro e w10 ⟨rfl, hb⟩
          go_wp2_with fail
          refine hK.out _ _ (unhide HS _ (below_next hHeld.1 hb)) (fun hHeld2 => ?_)
          clear hHeld hK
          have hHeld := hHeld2
          clear hHeld2 hb
          refine takeL 16 (.agg D) rfl (by kernel_rfl) (by kernel_rfl) (by kernel_rfl) (fun _ _ _ h => h) hHeld ?_ ?_
          · exact yields_build rfl rfl _ (by simp [Act.eval]) hD
          simp only [Act.put, List.setIfInBounds_toArray, List.set_cons_zero, List.set_cons_succ]
          refine oneL 17 rfl (by kernel_rfl) (fun K hK => ?_)
          rw [if_pos (by rfl)]
          have hbx := run_box43 D w10
          go_simp
          refine hK.out _ _ (unhide HS _ (hHeld.1.alloc hHeld.1.size _)) (fun hHeld2 => ?_)
          have hHeld0 := hHeld.1
          clear hHeld hK hbx
          have hHeld := hHeld2
          clear hHeld2
          refine takeL 18 (.pointer (some ⟨w10.heap.size, 0, none⟩)) rfl (by kernel_rfl) (by kernel_rfl) (by kernel_rfl) (fun _ _ _ h => h) hHeld ?_ ?_
          · exact Or.inl ⟨by rfl, fun W hSw => by clear hSw; go_simp⟩
          simp only [Act.put, List.setIfInBounds_toArray, List.set_cons_zero, List.set_cons_succ]
          refine wpAnyH_done (by kernel_rfl) ?_ _
          go_wp2_with fail
          go_ret
          have hl8 : w.heap.size ≤ w8.heap.size := by have := HC8.out.lt; omega
          exact ⟨w10.heap.size, D, C2, k6, s6, k7, s7, k8, rfl, Nat.le_trans hl8 hHeld0.size, heap_alloc_new _ _, HDs.out, (HBW.out.trans (HF8.out.below.mono (by omega))).trans ((hHeld0.alloc hHeld0.size _).mono hl8)⟩

end Go.Proofs.YbulkdjfsDoor
