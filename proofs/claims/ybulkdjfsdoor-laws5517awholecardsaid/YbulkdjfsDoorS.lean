import Derived.Test.YbulkdjfsDoorQ
namespace Go.Proofs.YbulkdjfsDoor
open Go.RowKit
open Fl (R Out Nan Same)
attribute [local go_sem] run_store_flt

/-- The expected shedder while it is put together. -/
structure Exp (wX w : World) (b : Nat) (E : Array Value) : Prop where
  blk : w.heap[b]? = some (.cells E 43 (0, 0))
  below : Below b wX w

theorem Exp.lt {wX w : World} {b : Nat} {E : Array Value} (h : Exp wX w b E) : b < w.heap.size := (Array.getElem?_eq_some_iff.1 h.blk).1
theorem Exp.cell {wX w : World} {b : Nat} {E : Array Value} (h : Exp wX w b E) (q : Nat) : w.cell? ⟨b, q, none⟩ = E[q]? := Lib.cell_of_heap h.blk q
theorem Exp.frozen {wX w : World} {b : Nat} {E : Array Value} (h : Exp wX w b E) (q : Nat) : w.frozen? ⟨b, q, none⟩ = false := Lib.frozen_of_heap h.blk q
theorem Exp.set {wX w : World} {b : Nat} {E : Array Value} (h : Exp wX w b E) (q : Nat) (v : Value) : Exp wX (w.setCell ⟨b, q, none⟩ v) b (E.setIfInBounds q v) :=
  ⟨heap_setCell_same _ _ _ _ _ _ h.blk, h.below.setCell (p := ⟨b, q, none⟩) (Nat.le_refl _) v⟩
theorem Exp.grow {wX w w' : World} {b : Nat} {E : Array Value} (h : Exp wX w b E) (hb : Below w.heap.size w w') : Exp wX w' b E :=
  ⟨(hb.block b h.lt).trans h.blk, h.below.trans (hb.mono (Nat.le_of_lt h.lt))⟩
theorem Exp.drewN {wX w : World} {b : Nat} {E : Array Value} (h : Exp wX w b E) (n : Nat) : Exp wX (w.drewN n) b E := ⟨h.blk, below_drewN h.below n⟩

/-- The state's shedder, copied. -/
theorem Sh.at {w : World} {b : Nat} {D C : Array Value} {k s : Nat} {mf : Int} {k3 s3 k5 s5 cr : Nat} {lf lm lt ta tb : Int} (h : Sh D C k s mf k3 s3 k5 s5 cr lf lm lt ta tb) (hb : w.heap[b]? = some (.cells D 43 (0, 0))) :
    At w b k s mf k3 s3 k5 s5 cr (tmW lf) (tmE lf) (tmW lm) (tmE lm) lt C := by
  have c := fun q => Lib.cell_of_heap hb q
  exact ⟨(Array.getElem?_eq_some_iff.1 hb).1, (c _).trans h.d0, (c _).trans h.d1, (c _).trans h.d2, (c _).trans h.d3, (c _).trans h.d4, (c _).trans h.d5, (c _).trans h.d6, (c _).trans h.d7, (c _).trans h.d8, (c _).trans h.d9, (c _).trans h.d10, (c _).trans h.d11, (c _).trans h.d12, (c _).trans h.d13, (c _).trans h.d14, fun i _ => (c _).trans (h.dr i)⟩

theorem At.bp {w w' : World} {B : Nat} {k s : Nat} {mf : Int} {k3 s3 k5 s5 cr : Nat} {f0 f1 m0 m1 lt : Int} {C : Array Value} (h : At w B k s mf k3 s3 k5 s5 cr f0 f1 m0 m1 lt C) (hb : Bp w w' B k s) : At w' B k s mf k3 s3 k s cr f0 f1 m0 m1 lt C := by
  have r := fun q (h5 : q ≠ 5) (h6 : q ≠ 6) => hb.rest q h5 h6
  exact ⟨Nat.lt_of_lt_of_le h.blk hb.grown.size, (r 0 (by omega) (by omega)).trans h.c0, (r 1 (by omega) (by omega)).trans h.c1, (r 2 (by omega) (by omega)).trans h.c2, (r 3 (by omega) (by omega)).trans h.c3, (r 4 (by omega) (by omega)).trans h.c4, hb.c5, hb.c6,
    (r 7 (by omega) (by omega)).trans h.c7, (r 8 (by omega) (by omega)).trans h.c8, (r 9 (by omega) (by omega)).trans h.c9, (r 10 (by omega) (by omega)).trans h.c10, (r 11 (by omega) (by omega)).trans h.c11, (r 12 (by omega) (by omega)).trans h.c12, (r 13 (by omega) (by omega)).trans h.c13, (r 14 (by omega) (by omega)).trans h.c14,
    fun i hi => (r (15 + i) (by omega) (by omega)).trans (h.dr i hi)⟩

theorem At.moved {w w' : World} {B : Nat} {k s : Nat} {mf : Int} {k3 s3 k5 s5 cr : Nat} {f0 f1 m0 m1 lt : Int} {C : Array Value} {k' s' mv : Nat} {ta tb : Int} (h : At w B k s mf k3 s3 k5 s5 cr f0 f1 m0 m1 lt C) (hb : Moved w w' B k' s' ta tb mv) :
    At w' B k' s' mv 640 4607182418800017408 k5 s5 0 f0 f1 ta tb lt C :=
  ⟨Nat.lt_of_lt_of_le h.blk hb.grown.size, hb.c0, hb.c1, hb.c2, hb.c3, hb.c4, (hb.rest 5 (by simp)).trans h.c5, (hb.rest 6 (by simp)).trans h.c6, hb.c7, (hb.rest 8 (by simp)).trans h.c8, (hb.rest 9 (by simp)).trans h.c9, (hb.rest 10 (by simp)).trans h.c10, hb.c11, hb.c12, hb.c13, (hb.rest 14 (by simp)).trans h.c14,
    fun i hi => (hb.rest (15 + i) (by simp; omega)).trans (h.dr i hi)⟩

/-- The cells of a shedder, in an array. -/
structure Arr (E C : Array Value) (k s : Nat) (mf : Int) (k3 s3 k5 s5 cr : Nat) (f0 f1 m0 m1 lt : Int) : Prop where
  size : E.size = 1304
  d0 : E[0]? = some (.int .i64 k)
  d1 : E[1]? = some (.float .f64 s)
  d2 : E[2]? = some (.int .i64 mf)
  d3 : E[3]? = some (.int .i64 k3)
  d4 : E[4]? = some (.float .f64 s3)
  d5 : E[5]? = some (.int .i64 k5)
  d6 : E[6]? = some (.float .f64 s5)
  d7 : E[7]? = some (.float .f64 cr)
  d8 : E[8]? = some (.int .u64 f0)
  d9 : E[9]? = some (.int .i64 f1)
  d10 : E[10]? = some (.pointer none)
  d11 : E[11]? = some (.int .u64 m0)
  d12 : E[12]? = some (.int .i64 m1)
  d13 : E[13]? = some (.pointer none)
  d14 : E[14]? = some (.int .i64 lt)
  dr : ∀ i, E[15 + i]? = C[i]?

theorem Arr.at {w : World} {b : Nat} {E C : Array Value} {k s : Nat} {mf : Int} {k3 s3 k5 s5 cr : Nat} {f0 f1 m0 m1 lt : Int} (h : Arr E C k s mf k3 s3 k5 s5 cr f0 f1 m0 m1 lt) (hb : w.heap[b]? = some (.cells E 43 (0, 0))) : At w b k s mf k3 s3 k5 s5 cr f0 f1 m0 m1 lt C := by
  have c := fun q => Lib.cell_of_heap hb q
  exact ⟨(Array.getElem?_eq_some_iff.1 hb).1, (c _).trans h.d0, (c _).trans h.d1, (c _).trans h.d2, (c _).trans h.d3, (c _).trans h.d4, (c _).trans h.d5, (c _).trans h.d6, (c _).trans h.d7, (c _).trans h.d8, (c _).trans h.d9, (c _).trans h.d10, (c _).trans h.d11, (c _).trans h.d12, (c _).trans h.d13, (c _).trans h.d14, fun i _ => (c _).trans (h.dr i)⟩

theorem Sh.kept {D C : Array Value} {k s : Nat} {mf : Int} {k3 s3 k5 s5 cr : Nat} {lf lm lt ta tb : Int} (h : Sh D C k s mf k3 s3 k5 s5 cr lf lm lt ta tb) : Arr ((D.setIfInBounds 5 (.int .i64 k)).setIfInBounds 6 (.float .f64 s)) C k s mf k3 s3 k s cr (tmW lf) (tmE lf) (tmW lm) (tmE lm) lt := by
  have hs := h.size
  have r : ∀ q, q ≠ 5 → q ≠ 6 → ((D.setIfInBounds 5 (.int .i64 k)).setIfInBounds 6 (.float .f64 s))[q]? = D[q]? := fun q h5 h6 => by
    rw [Array.getElem?_setIfInBounds, if_neg (by omega), Array.getElem?_setIfInBounds, if_neg (by omega)]
  exact ⟨by simpa using hs, (r 0 (by omega) (by omega)).trans h.d0, (r 1 (by omega) (by omega)).trans h.d1, (r 2 (by omega) (by omega)).trans h.d2, (r 3 (by omega) (by omega)).trans h.d3, (r 4 (by omega) (by omega)).trans h.d4,
    by rw [Array.getElem?_setIfInBounds, if_neg (by omega), Array.getElem?_setIfInBounds, if_pos rfl, if_pos (by omega)], by rw [Array.getElem?_setIfInBounds, if_pos rfl, if_pos (by simp; omega)],
    (r 7 (by omega) (by omega)).trans h.d7, (r 8 (by omega) (by omega)).trans h.d8, (r 9 (by omega) (by omega)).trans h.d9, (r 10 (by omega) (by omega)).trans h.d10, (r 11 (by omega) (by omega)).trans h.d11, (r 12 (by omega) (by omega)).trans h.d12, (r 13 (by omega) (by omega)).trans h.d13, (r 14 (by omega) (by omega)).trans h.d14,
    fun i => (r (15 + i) (by omega) (by omega)).trans (h.dr i)⟩

theorem upd_ne (E : Array Value) (q : Nat) (v : Value) (i : Nat) (h : q ≠ i) : (E.setIfInBounds q v)[i]? = E[i]? := by rw [Array.getElem?_setIfInBounds, if_neg h]
theorem upd_eq (E : Array Value) (q : Nat) (v : Value) (h : q < E.size) : (E.setIfInBounds q v)[q]? = some v := by rw [Array.getElem?_setIfInBounds, if_pos rfl, if_pos h]

theorem Arr.set01 {E C : Array Value} {k s : Nat} {mf : Int} {k3 s3 k5 s5 cr : Nat} {f0 f1 m0 m1 lt : Int} (h : Arr E C k s mf k3 s3 k5 s5 cr f0 f1 m0 m1 lt) (k' s' : Nat) : Arr ((E.setIfInBounds 0 (.int .i64 k')).setIfInBounds 1 (.float .f64 s')) C k' s' mf k3 s3 k5 s5 cr f0 f1 m0 m1 lt := by
  have hs := h.size
  exact ⟨by simpa using hs, (upd_ne _ _ _ _ (by omega)).trans <| upd_eq _ _ _ (by (try simp only [Array.size_setIfInBounds]); omega), upd_eq _ _ _ (by (try simp only [Array.size_setIfInBounds]); omega), (upd_ne _ _ _ _ (by omega)).trans <| (upd_ne _ _ _ _ (by omega)).trans <| h.d2, (upd_ne _ _ _ _ (by omega)).trans <| (upd_ne _ _ _ _ (by omega)).trans <| h.d3, (upd_ne _ _ _ _ (by omega)).trans <| (upd_ne _ _ _ _ (by omega)).trans <| h.d4, (upd_ne _ _ _ _ (by omega)).trans <| (upd_ne _ _ _ _ (by omega)).trans <| h.d5, (upd_ne _ _ _ _ (by omega)).trans <| (upd_ne _ _ _ _ (by omega)).trans <| h.d6, (upd_ne _ _ _ _ (by omega)).trans <| (upd_ne _ _ _ _ (by omega)).trans <| h.d7, (upd_ne _ _ _ _ (by omega)).trans <| (upd_ne _ _ _ _ (by omega)).trans <| h.d8, (upd_ne _ _ _ _ (by omega)).trans <| (upd_ne _ _ _ _ (by omega)).trans <| h.d9, (upd_ne _ _ _ _ (by omega)).trans <| (upd_ne _ _ _ _ (by omega)).trans <| h.d10, (upd_ne _ _ _ _ (by omega)).trans <| (upd_ne _ _ _ _ (by omega)).trans <| h.d11, (upd_ne _ _ _ _ (by omega)).trans <| (upd_ne _ _ _ _ (by omega)).trans <| h.d12, (upd_ne _ _ _ _ (by omega)).trans <| (upd_ne _ _ _ _ (by omega)).trans <| h.d13, (upd_ne _ _ _ _ (by omega)).trans <| (upd_ne _ _ _ _ (by omega)).trans <| h.d14, fun i => (upd_ne _ _ _ _ (by omega)).trans <| (upd_ne _ _ _ _ (by omega)).trans <| h.dr i⟩

theorem Arr.set34 {E C : Array Value} {k s : Nat} {mf : Int} {k3 s3 k5 s5 cr : Nat} {f0 f1 m0 m1 lt : Int} (h : Arr E C k s mf k3 s3 k5 s5 cr f0 f1 m0 m1 lt)  : Arr ((E.setIfInBounds 3 (.int .i64 640)).setIfInBounds 4 (.float .f64 4607182418800017408)) C k s mf 640 4607182418800017408 k5 s5 cr f0 f1 m0 m1 lt := by
  have hs := h.size
  exact ⟨by simpa using hs, (upd_ne _ _ _ _ (by omega)).trans <| (upd_ne _ _ _ _ (by omega)).trans <| h.d0, (upd_ne _ _ _ _ (by omega)).trans <| (upd_ne _ _ _ _ (by omega)).trans <| h.d1, (upd_ne _ _ _ _ (by omega)).trans <| (upd_ne _ _ _ _ (by omega)).trans <| h.d2, (upd_ne _ _ _ _ (by omega)).trans <| upd_eq _ _ _ (by (try simp only [Array.size_setIfInBounds]); omega), upd_eq _ _ _ (by (try simp only [Array.size_setIfInBounds]); omega), (upd_ne _ _ _ _ (by omega)).trans <| (upd_ne _ _ _ _ (by omega)).trans <| h.d5, (upd_ne _ _ _ _ (by omega)).trans <| (upd_ne _ _ _ _ (by omega)).trans <| h.d6, (upd_ne _ _ _ _ (by omega)).trans <| (upd_ne _ _ _ _ (by omega)).trans <| h.d7, (upd_ne _ _ _ _ (by omega)).trans <| (upd_ne _ _ _ _ (by omega)).trans <| h.d8, (upd_ne _ _ _ _ (by omega)).trans <| (upd_ne _ _ _ _ (by omega)).trans <| h.d9, (upd_ne _ _ _ _ (by omega)).trans <| (upd_ne _ _ _ _ (by omega)).trans <| h.d10, (upd_ne _ _ _ _ (by omega)).trans <| (upd_ne _ _ _ _ (by omega)).trans <| h.d11, (upd_ne _ _ _ _ (by omega)).trans <| (upd_ne _ _ _ _ (by omega)).trans <| h.d12, (upd_ne _ _ _ _ (by omega)).trans <| (upd_ne _ _ _ _ (by omega)).trans <| h.d13, (upd_ne _ _ _ _ (by omega)).trans <| (upd_ne _ _ _ _ (by omega)).trans <| h.d14, fun i => (upd_ne _ _ _ _ (by omega)).trans <| (upd_ne _ _ _ _ (by omega)).trans <| h.dr i⟩

theorem Arr.setT {E C : Array Value} {k s : Nat} {mf : Int} {k3 s3 k5 s5 cr : Nat} {f0 f1 m0 m1 lt : Int} (h : Arr E C k s mf k3 s3 k5 s5 cr f0 f1 m0 m1 lt) (a b : Int) : Arr (((E.setIfInBounds 11 (.int .u64 a)).setIfInBounds 12 (.int .i64 b)).setIfInBounds 13 (.pointer none)) C k s mf k3 s3 k5 s5 cr f0 f1 a b lt := by
  have hs := h.size
  exact ⟨by simpa using hs, (upd_ne _ _ _ _ (by omega)).trans <| (upd_ne _ _ _ _ (by omega)).trans <| (upd_ne _ _ _ _ (by omega)).trans <| h.d0, (upd_ne _ _ _ _ (by omega)).trans <| (upd_ne _ _ _ _ (by omega)).trans <| (upd_ne _ _ _ _ (by omega)).trans <| h.d1, (upd_ne _ _ _ _ (by omega)).trans <| (upd_ne _ _ _ _ (by omega)).trans <| (upd_ne _ _ _ _ (by omega)).trans <| h.d2, (upd_ne _ _ _ _ (by omega)).trans <| (upd_ne _ _ _ _ (by omega)).trans <| (upd_ne _ _ _ _ (by omega)).trans <| h.d3, (upd_ne _ _ _ _ (by omega)).trans <| (upd_ne _ _ _ _ (by omega)).trans <| (upd_ne _ _ _ _ (by omega)).trans <| h.d4, (upd_ne _ _ _ _ (by omega)).trans <| (upd_ne _ _ _ _ (by omega)).trans <| (upd_ne _ _ _ _ (by omega)).trans <| h.d5, (upd_ne _ _ _ _ (by omega)).trans <| (upd_ne _ _ _ _ (by omega)).trans <| (upd_ne _ _ _ _ (by omega)).trans <| h.d6, (upd_ne _ _ _ _ (by omega)).trans <| (upd_ne _ _ _ _ (by omega)).trans <| (upd_ne _ _ _ _ (by omega)).trans <| h.d7, (upd_ne _ _ _ _ (by omega)).trans <| (upd_ne _ _ _ _ (by omega)).trans <| (upd_ne _ _ _ _ (by omega)).trans <| h.d8, (upd_ne _ _ _ _ (by omega)).trans <| (upd_ne _ _ _ _ (by omega)).trans <| (upd_ne _ _ _ _ (by omega)).trans <| h.d9, (upd_ne _ _ _ _ (by omega)).trans <| (upd_ne _ _ _ _ (by omega)).trans <| (upd_ne _ _ _ _ (by omega)).trans <| h.d10, (upd_ne _ _ _ _ (by omega)).trans <| (upd_ne _ _ _ _ (by omega)).trans <| upd_eq _ _ _ (by (try simp only [Array.size_setIfInBounds]); omega), (upd_ne _ _ _ _ (by omega)).trans <| upd_eq _ _ _ (by (try simp only [Array.size_setIfInBounds]); omega), upd_eq _ _ _ (by (try simp only [Array.size_setIfInBounds]); omega), (upd_ne _ _ _ _ (by omega)).trans <| (upd_ne _ _ _ _ (by omega)).trans <| (upd_ne _ _ _ _ (by omega)).trans <| h.d14, fun i => (upd_ne _ _ _ _ (by omega)).trans <| (upd_ne _ _ _ _ (by omega)).trans <| (upd_ne _ _ _ _ (by omega)).trans <| h.dr i⟩

theorem Arr.set2 {E C : Array Value} {k s : Nat} {mf : Int} {k3 s3 k5 s5 cr : Nat} {f0 f1 m0 m1 lt : Int} (h : Arr E C k s mf k3 s3 k5 s5 cr f0 f1 m0 m1 lt) (v : Int) : Arr (E.setIfInBounds 2 (.int .i64 v)) C k s v k3 s3 k5 s5 cr f0 f1 m0 m1 lt := by
  have hs := h.size
  exact ⟨by simpa using hs, (upd_ne _ _ _ _ (by omega)).trans <| h.d0, (upd_ne _ _ _ _ (by omega)).trans <| h.d1, upd_eq _ _ _ (by (try simp only [Array.size_setIfInBounds]); omega), (upd_ne _ _ _ _ (by omega)).trans <| h.d3, (upd_ne _ _ _ _ (by omega)).trans <| h.d4, (upd_ne _ _ _ _ (by omega)).trans <| h.d5, (upd_ne _ _ _ _ (by omega)).trans <| h.d6, (upd_ne _ _ _ _ (by omega)).trans <| h.d7, (upd_ne _ _ _ _ (by omega)).trans <| h.d8, (upd_ne _ _ _ _ (by omega)).trans <| h.d9, (upd_ne _ _ _ _ (by omega)).trans <| h.d10, (upd_ne _ _ _ _ (by omega)).trans <| h.d11, (upd_ne _ _ _ _ (by omega)).trans <| h.d12, (upd_ne _ _ _ _ (by omega)).trans <| h.d13, (upd_ne _ _ _ _ (by omega)).trans <| h.d14, fun i => (upd_ne _ _ _ _ (by omega)).trans <| h.dr i⟩

theorem Arr.set7 {E C : Array Value} {k s : Nat} {mf : Int} {k3 s3 k5 s5 cr : Nat} {f0 f1 m0 m1 lt : Int} (h : Arr E C k s mf k3 s3 k5 s5 cr f0 f1 m0 m1 lt)  : Arr (E.setIfInBounds 7 (.float .f64 0)) C k s mf k3 s3 k5 s5 0 f0 f1 m0 m1 lt := by
  have hs := h.size
  exact ⟨by simpa using hs, (upd_ne _ _ _ _ (by omega)).trans <| h.d0, (upd_ne _ _ _ _ (by omega)).trans <| h.d1, (upd_ne _ _ _ _ (by omega)).trans <| h.d2, (upd_ne _ _ _ _ (by omega)).trans <| h.d3, (upd_ne _ _ _ _ (by omega)).trans <| h.d4, (upd_ne _ _ _ _ (by omega)).trans <| h.d5, (upd_ne _ _ _ _ (by omega)).trans <| h.d6, upd_eq _ _ _ (by (try simp only [Array.size_setIfInBounds]); omega), (upd_ne _ _ _ _ (by omega)).trans <| h.d8, (upd_ne _ _ _ _ (by omega)).trans <| h.d9, (upd_ne _ _ _ _ (by omega)).trans <| h.d10, (upd_ne _ _ _ _ (by omega)).trans <| h.d11, (upd_ne _ _ _ _ (by omega)).trans <| h.d12, (upd_ne _ _ _ _ (by omega)).trans <| h.d13, (upd_ne _ _ _ _ (by omega)).trans <| h.d14, fun i => (upd_ne _ _ _ _ (by omega)).trans <| h.dr i⟩

set_option maxHeartbeats 1600000 in
set_option maxRecDepth 100000 in
theorem whole_any (nc : Bool) (gr sh : Nat) (mf : Int) (cn : Bool) (cg cs bg bs cr : Nat) (lf lm st lt now old lim : Int) (a1 a2 : Option Addr) (l1 l2 p1 p2 : Nat) (w : World) (hnc : NC w)
    (hst0 : -9223372036854775808 ≤ st) (hst1 : st ≤ 9223372036854775807) (hlf0 : -9223372036854775808 ≤ lf) (hlf1 : lf ≤ 9223372036854775807) (hlm0 : -9223372036854775808 ≤ lm) (hlm1 : lm ≤ 9223372036854775807)
    (hnow0 : -9223372036854775808 ≤ now) (hnow1 : now ≤ 9223372036854775807) (h1 : Arg32 w a1 l1) (h2 : Arg32 w a2 l2) :
    Calls Ybad.prog 3 #[.agg #[.bool nc, .int .u64 gr, .float .f64 sh, .int .i64 mf, .bool cn, .int .u64 cg, .float .f64 cs, .int .u64 bg, .float .f64 bs, .float .f64 cr, .int .i64 lf, .int .i64 lm, .int .i64 st, .int .i64 lt, .slice a1 l1 p1, .slice a2 l2 p2], .int .i64 now, .int .i64 old, .int .i64 lim] w fun e w' =>
      e = .returned (.bool true) ∧ Below w.heap.size w w' := by
  obtain ⟨Z, hz, hZs⟩ := zero43r
  have H1 := hide h1
  have H2 := hide h2
  have HN := hide hnc
  clear h1 h2 hnc
  go_enter Ybad.func3, Ybad.ntmps3
  go_wp2_with fail
  obtain ⟨w0, hw0⟩ : ∃ w0, w0 = w.alloc (.cells #[.bool nc, .int .u64 gr, .float .f64 sh, .int .i64 mf, .bool cn, .int .u64 cg, .float .f64 cs, .int .u64 bg, .float .f64 bs, .float .f64 cr, .int .i64 lf, .int .i64 lm, .int .i64 st, .int .i64 lt, .slice a1 l1 p1, .slice a2 l2 p2] 26) := ⟨_, rfl⟩
  rw [← hw0]
  have hb0 : Below w.heap.size w w0 := by rw [hw0]; exact (Below.refl _ _).alloc (Nat.le_refl _) _
  have hs0 : w0.heap.size = w.heap.size + 1 := by rw [hw0]; simp
  clear hw0
  refine (build_any nc gr sh mf cn cg cs bg bs cr lf lm st lt a1 a2 l1 l2 p1 p2 w0 hst0 hst1 hlf0 hlf1 hlm0 hlm1 (H1.out.below hb0) (H2.out.below hb0)).mono ?_
  rintro e w1 ⟨B, D, C, k, s, k3, s3, k5, rfl, hm⟩
  have hblk := hm.blk
  have hDs := hm.sh.size
  have hone := hm.sh.one
  have hn1 := (HN.out.below hb0).below hm.below
  have hk := hm.sh.le
  have hlt := hm.lt
  have hB := hm.new
  have hb1 := hb0.trans (hm.below.mono hb0.size)
  have HM := hide hm
  have HN1 := hide hn1
  have HB1 := hide hb1
  have HOne := hide hone
  clear hn1 hb1 hm hb0 hone
  go_wp2_with (first
    | (refine wpList_load43 rfl rfl B rfl D hDs hblk ?_)
    | (refine wpList_store43 rfl rfl _ rfl D Z rfl hDs hZs HOne.out (heap_alloc_new _ _) ?_; intro w2 k2 hb2 hs2))
  have hb2' : Below w1.heap.size w1 w2 := ((Below.refl _ _).alloc (Nat.le_refl _) _).trans hb2
  have hs2' : w2.heap.size = w1.heap.size + 1 := by rw [hs2]; simp
  have HK2 := hide k2
  have HB2 := hide (HB1.out.trans (hb2'.mono HB1.out.size))
  have HN2 := hide (HN1.out.below hb2')
  have HBK := hide ((hb2'.block B hlt).trans hblk)
  clear hb2 hs2 hb2' k2 hblk HB1 HN1
  generalize w1.heap.size = b10 at *
  refine (at_agg now _ hnow0 hnow1).mono ?_
  rintro e w3 ⟨rfl, hb3⟩
  have hk3 := (hb3.block b10 (by omega)).trans HK2.out
  have hbk3 := (hb3.block B (by omega)).trans HBK.out
  have hn3 := HN2.out.below hb3
  have hb03 := HB2.out.trans (hb3.mono HB2.out.size)
  have hs3 : b10 < w3.heap.size := by have := hb3.size; omega
  have HK3 := hide hk3
  have HBK3 := hide hbk3
  have HN3 := hide hn3
  have HB3 := hide hb03
  clear hk3 hbk3 hn3 hb03 hb3 HK2 HB2 HN2 HBK
  go_upto_region 4 with (fail)
  have hbt : Below w3.heap.size w3 (w3.alloc (.cells #[.int .u64 (tmW now), .int .i64 (tmE now), .pointer none] 34)) := (Below.refl _ _).alloc (Nat.le_refl _) _
  have t0 : (w3.alloc (.cells #[.int .u64 (tmW now), .int .i64 (tmE now), .pointer none] 34)).cell? ⟨w3.heap.size, 0, none⟩ = some (.int .u64 (tmW now)) := by simp
  have t1 : (w3.alloc (.cells #[.int .u64 (tmW now), .int .i64 (tmE now), .pointer none] 34)).cell? ⟨w3.heap.size, 1, none⟩ = some (.int .i64 (tmE now)) := by simp
  have t2 : (w3.alloc (.cells #[.int .u64 (tmW now), .int .i64 (tmE now), .pointer none] 34)).cell? ⟨w3.heap.size, 2, none⟩ = some (.pointer none) := by simp
  have hs4 : (w3.alloc (.cells #[.int .u64 (tmW now), .int .i64 (tmE now), .pointer none] 34)).heap.size = w3.heap.size + 1 := by simp
  generalize w3.alloc (.cells #[.int .u64 (tmW now), .int .i64 (tmE now), .pointer none] 34) = w4 at *
  have hk4 := (hbt.block b10 hs3).trans HK3.out
  have hbk4 := (hbt.block B (by omega)).trans HBK3.out
  have hn4 := HN3.out.below hbt
  have hb04 := HB3.out.trans (hbt.mono HB3.out.size)
  have HK4 := hide hk4
  have HBK4 := hide hbk4
  have HN4 := hide hn4
  have HB4 := hide hb04
  clear hk4 hbk4 hn4 hb04 hbt HK3 HBK3 HN3 HB3
  generalize w3.heap.size = b11 at *
  go_wp2_with fail
  have hSh := HM.out.sh
  have a4 := hSh.at HBK4.out
  have hS4 : Shd w4 B := ⟨by omega, a4.blk, fun q hq => by rw [Lib.cell_of_heap HBK4.out]; exact ⟨_, Array.getElem?_eq_getElem (by rw [hDs]; omega)⟩, fun q => Lib.frozen_of_heap HBK4.out q⟩
  have hd4 : Dem w4 B 15 (cuOf C 3) (cuOf C 646) := ⟨fun g hg => by rw [show 15 + 3 + g = 15 + (3 + g) by omega, a4.dr _ (by omega)]; exact cuOf_cell hSh.ok 3 g (by omega) (by omega), fun g hg => by rw [show 15 + 646 + g = 15 + (646 + g) by omega, a4.dr _ (by omega)]; exact cuOf_cell hSh.ok 646 g (by omega) (by omega), fun g => cuOf_lt hSh.ok 3 g (by omega), fun g => cuOf_lt hSh.ok 646 g (by omega)⟩
  refine (started_any B k s _ _ old lim _ _ w4 hS4 hd4 HN4.out hk a4.c0 a4.c1).mono ?_
  rintro e w5 ⟨rfl, hst⟩
  have g5 := hst.keeps.1
  have hk5 : w5.heap[b10]? = some (.cells D 43 (0, 0)) := (g5.block b10 (by omega) (by simp; omega)).trans HK4.out
  have u0 : w5.cell? ⟨b11, 0, none⟩ = some (.int .u64 (tmW now)) := g5.cell t0 (by simp; omega)
  have u1 : w5.cell? ⟨b11, 1, none⟩ = some (.int .i64 (tmE now)) := g5.cell t1 (by simp; omega)
  have u2 : w5.cell? ⟨b11, 2, none⟩ = some (.pointer none) := g5.cell t2 (by simp; omega)
  have hb05 := HB4.out.grown g5 HB4.out.size (by simp; omega)
  have hs5 : b11 < w5.heap.size := by have := g5.size; omega
  have a5 := hSh.at hk5
  have hd5 : Dem w5 b10 15 (cuOf C 3) (cuOf C 646) := ⟨fun g hg => by rw [show 15 + 3 + g = 15 + (3 + g) by omega, a5.dr _ (by omega)]; exact cuOf_cell hSh.ok 3 g (by omega) (by omega), fun g hg => by rw [show 15 + 646 + g = 15 + (646 + g) by omega, a5.dr _ (by omega)]; exact cuOf_cell hSh.ok 646 g (by omega) (by omega), fun g => cuOf_lt hSh.ok 3 g (by omega), fun g => cuOf_lt hSh.ok 646 g (by omega)⟩
  have HSt := hide hst
  have HA4 := hide a4
  have HK5 := hide hk5
  have HB5 := hide hb05
  have HD5 := hide hd5
  have HSh := hide hSh
  clear hst a4 hk5 hb05 hd5 hSh hS4 hd4 g5 a5 t0 t1 t2 HK4 HBK4 HN4 HB4
  go_wp2_with fail
  refine (tables_any b10 15 _ _ w5 HD5.out (by omega)).mono ?_
  rintro e w6 ⟨b1, b2, rfl, htab, hb6⟩
  have hs6 : b11 < w6.heap.size := by have := hb6.size; omega
  have l1 := htab.lt1
  have l2 := htab.lt2
  have hk6 : w6.heap[b10]? = some (.cells D 43 (0, 0)) := (hb6.block b10 (by omega)).trans HK5.out
  have hb56 := hb6
  have hb06 := HB5.out.trans (hb6.mono HB5.out.size)
  have HB56 := hide hb56
  have HB6 := hide hb06
  have HT6 := hide htab
  clear hb6 hb56 hb06 htab HB5 HK5
  go_upto_region 7 with (first
    | (refine wpList_load43 rfl rfl b10 rfl D hDs hk6 ?_)
    | (refine wpList_store43 rfl rfl _ rfl D Z rfl hDs hZs HOne.out (heap_alloc_new _ _) ?_; intro w7 k7 hb7 hs7))
  have hb67 : Below w6.heap.size w6 w7 := ((Below.refl _ _).alloc (Nat.le_refl _) _).trans hb7
  have hE7 : Exp w6 w7 w6.heap.size D := ⟨k7, hb67⟩
  have hs7' : w7.heap.size = w6.heap.size + 1 := by rw [hs7]; simp
  have x0 := ((hb67.cell (p := ⟨b10, 0, none⟩) (by simp; omega)).trans (Lib.cell_of_heap hk6 0)).trans HSh.out.d0
  have x1 := ((hb67.cell (p := ⟨b10, 1, none⟩) (by simp; omega)).trans (Lib.cell_of_heap hk6 1)).trans HSh.out.d1
  have y5 := (hE7.cell 5).trans HSh.out.d5
  have y6 := (hE7.cell 6).trans HSh.out.d6
  have z5 := hE7.frozen 5
  have z6 := hE7.frozen 6
  have HE7 := hide hE7
  have hne10 : ¬ b10 = w6.heap.size := by omega
  have hb67' := hb67
  clear hE7 k7 hb7 hs7 hb67 hb67'
  have HK6 := hide hk6
  clear hk6
  generalize hb14 : w6.heap.size = b14 at *
  go_upto_region 8 with (fail)
  have hE8 : Exp w6 ((w7.setCell ⟨b14, 5, none⟩ (.int .i64 k)).setCell ⟨b14, 6, none⟩ (.float .f64 s)) b14 ((D.setIfInBounds 5 (.int .i64 k)).setIfInBounds 6 (.float .f64 s)) := (HE7.out.set 5 _).set 6 _
  have hs8 : ((w7.setCell ⟨b14, 5, none⟩ (.int .i64 k)).setCell ⟨b14, 6, none⟩ (.float .f64 s)).heap.size = b14 + 1 := by simp; omega
  generalize (w7.setCell ⟨b14, 5, none⟩ (.int .i64 k)).setCell ⟨b14, 6, none⟩ (.float .f64 s) = w8 at *
  generalize hE : (D.setIfInBounds 5 (.int .i64 k)).setIfInBounds 6 (.float .f64 s) = E8 at *
  have hA8 : Arr E8 C k s mf k3 s3 k s cr (tmW lf) (tmE lf) (tmW lm) (tmE lm) lt := by rw [← hE]; exact HSh.out.kept
  have HA8 := hide hA8
  have HE8 := hide hE8
  clear hE hA8 x0 x1 y5 y6 z5 z6 HE7 hs7'
  have HX : Hid (∀ w', Below b14 w6 w' → w'.cell? ⟨b10, 0, none⟩ = some (.int .i64 k) ∧ w'.cell? ⟨b10, 1, none⟩ = some (.float .f64 s) ∧ w'.cell? ⟨b11, 0, none⟩ = some (.int .u64 (tmW now)) ∧ w'.cell? ⟨b11, 1, none⟩ = some (.int .i64 (tmE now)) ∧ w'.cell? ⟨b11, 2, none⟩ = some (.pointer none) ∧ Tab w' b1 b2 (fun g => cuOf C 3 g + cuOf C 646 g)) := fun w' hb => by
    subst hb14
    have kk := fun q => hb.cell (p := ⟨b11, q, none⟩) hs6
    have jj := fun q => HB56.out.cell (p := ⟨b11, q, none⟩) hs5
    have ii := fun q => (hb.cell (p := ⟨b10, q, none⟩) (by simp; omega)).trans (Lib.cell_of_heap HK6.out q)
    exact ⟨(ii 0).trans HSh.out.d0, (ii 1).trans HSh.out.d1, ((kk 0).trans (jj 0)).trans u0, ((kk 1).trans (jj 1)).trans u1, ((kk 2).trans (jj 2)).trans u2, HT6.out.below hb⟩
  have HY : Hid (∀ w', Below b14 w6 w' → Below w5.heap.size w5 w') := fun w' hb => by
    subst hb14
    exact HB56.out.trans (hb.mono HB56.out.size)
  have HZ : Hid (∀ w', Below b14 w6 w' → Below w.heap.size w w') := fun w' hb => by
    subst hb14
    exact HB6.out.trans (hb.mono HB6.out.size)
  clear hE8 u0 u1 u2 HB56 HB6 HT6 HK6
  obtain ⟨x0, x1, _⟩ := unhide HX w8 HE8.out.below
  go_cut [49] (fun v wr => v = .bool (!isNo k s) ∧ wr = w8)
  case first =>
    by_cases h640 : k = 640
    · subst h640
      have hi : isNo 640 s = (FloatKind.f64.format.order s 4607182418800017408 == some .eq) := by unfold isNo; simp; rfl
      have HI := hide hi
      clear hi
      go_wp2_with fail
      go_meet
      exact ⟨by rw [HI.out]; try simp, rfl⟩
    · have hi : isNo k s = false := by unfold isNo; rw [beq_eq_false_iff_ne.2 h640]; rfl
      have hk' : ((k : Int) == 640) = false := by simp; omega
      have HI := hide hi
      clear hi
      go_wp2_with fail
      go_meet
      exact ⟨by rw [HI.out]; try simp, rfl⟩
  case rest =>
    obtain ⟨rfl, rfl⟩ := hcut
    cases hno : isNo k s
    · have hNs : ∀ g, g ≤ 640 → (fun g => cuOf C 3 g + cuOf C 646 g) g < 9007199254740992 := fun g _ => by
        have h1 := cuOf_lt HSh.out.ok 3 g (by omega)
        have h2 := cuOf_lt HSh.out.ok 646 g (by omega)
        show cuOf C 3 g + cuOf C 646 g < _
        omega
      have hSs : ∀ g, g ≤ 640 → sumTo (fun g => cuOf C 3 g + cuOf C 646 g) g < 9007199254740992 := fun g hg => HD5.out.small g hg
      have HNs := hide hNs
      have HSs := hide hSs
      clear hNs hSs
      have hq := run_float_op .quo (by simp) (floatOfInt .f64 lim) (floatOfInt .f64 old) wc
      have HF : Hid (Out (floatBits .quo .f64 (floatOfInt .f64 lim) (floatOfInt .f64 old)) (fo .quo (floatOfInt .f64 lim) (floatOfInt .f64 old) wc)) := fo_out _ _ _ _
      generalize fo .quo (floatOfInt .f64 lim) (floatOfInt .f64 old) wc = fa' at *
      go_wp2_with fail
      have hEa := HE8.out.drewN (fd .quo (floatOfInt .f64 lim) (floatOfInt .f64 old))
      generalize wc.drewN (fd .quo (floatOfInt .f64 lim) (floatOfInt .f64 old)) = wa at *
      refine (tadm_any b1 b2 k s _ wa (unhide HX wa hEa.below).2.2.2.2.2 hk).mono ?_
      rintro e wb ⟨r', rfl, hadm', hbb⟩
      have hEb := hEa.grow hbb
      have HAdm := hide hadm'
      clear hEa hbb hadm' hq x0 x1
      have hm' := run_float_op .mul (by simp) fa' r' wb
      have HMu : Hid (Out (floatBits .mul .f64 fa' r') (fo .mul fa' r' wb)) := fo_out _ _ _ _
      generalize fo .mul fa' r' wb = n' at *
      have hEb' := hEb.drewN (fd .mul fa' r')
      have HEb := hide hEb'
      clear hEb hEb'
      go_wp2_with fail
      generalize wb.drewN (fd .mul fa' r') = wd at *
      clear hm'
      refine (tcut_any b1 b2 n' _ wd (unhide HX wd HEb.out.below).2.2.2.2.2 HNs.out HSs.out).mono ?_
      rintro e wf ⟨rfl, hbf⟩
      have hEf := HEb.out.grow hbf
      have hkn := cutR_le (fun g => cuOf C 3 g + cuOf C 646 g) n' 640 1 (by omega)
      unfold cutV
      have HCut : Hid (cutR (fun g => cuOf C 3 g + cuOf C 646 g) n' 640 1 = ((cutR (fun g => cuOf C 3 g + cuOf C 646 g) n' 640 1).1, (cutR (fun g => cuOf C 3 g + cuOf C 646 g) n' 640 1).2)) := rfl
      generalize (cutR (fun g => cuOf C 3 g + cuOf C 646 g) n' 640 1).1 = kn at *
      generalize (cutR (fun g => cuOf C 3 g + cuOf C 646 g) n' 640 1).2 = sn at *
      have hbg : Below wf.heap.size wf (wf.alloc (.cells #[.int .i64 kn, .float .f64 sn] 30)) := (Below.refl _ _).alloc (Nat.le_refl _) _
      have hEg := hEf.grow hbg
      have hcg : Cut (wf.alloc (.cells #[.int .i64 kn, .float .f64 sn] 30)) wf.heap.size kn sn := ⟨by simp, hkn, by simp, by simp⟩
      have hlg := hEf.lt
      have HEg := hide hEg
      have HCg := hide hcg
      clear hEf hbf hbg hEg hcg HEb
      go_upto_region 11 with (fail)
      generalize wf.alloc (.cells #[.int .i64 kn, .float .f64 sn] 30) = wg at *
      generalize wf.heap.size = b16 at *
      have c0 := HCg.out.c0
      have c1 := HCg.out.c1
      have y0 := (HEg.out.cell 0).trans HA8.out.d0
      have y1 := (HEg.out.cell 1).trans HA8.out.d1
      have z0 := HEg.out.frozen 0
      have z1 := HEg.out.frozen 1
      have hne16 : ¬ b16 = b14 := by omega
      have hEh := (HEg.out.set 0 (.int .i64 kn)).set 1 (.float .f64 sn)
      have hCh := (HCg.out.setOther (q := 0) hne16 (.int .i64 kn)).setOther (q := 1) hne16 (.float .f64 sn)
      go_upto_region 12 with (fail)
      generalize (wg.setCell ⟨b14, 0, none⟩ (.int .i64 kn)).setCell ⟨b14, 1, none⟩ (.float .f64 sn) = wh at *
      have HEh := hide hEh
      have HCh := hide hCh
      have HAh := hide (HA8.out.set01 kn sn)
      generalize (E8.setIfInBounds 0 (.int .i64 kn)).setIfInBounds 1 (.float .f64 sn) = Eh at *
      clear hEh hCh c0 c1 y0 y1 z0 z1 HEg HCg HE8 HA8
      go_wp2_with fail
      refine (nocut_any wh).mono ?_
      rintro e wi ⟨rfl, hbi⟩
      have hEi := HEh.out.grow hbi
      have hCi := HCh.out.below hbi
      have y3 := (hEi.cell 3).trans HAh.out.d3
      have y4 := (hEi.cell 4).trans HAh.out.d4
      have z3 := hEi.frozen 3
      have z4 := hEi.frozen 4
      have hEj := (hEi.set 3 (.int .i64 640)).set 4 (.float .f64 4607182418800017408)
      have hCj := (hCi.setOther (q := 3) hne16 (.int .i64 640)).setOther (q := 4) hne16 (.float .f64 4607182418800017408)
      have HAj := hide HAh.out.set34
      clear hbi hEi hCi HEh HCh HAh
      have HEj := hide hEj
      have HCj := hide hCj
      clear hEj hCj
      go_upto_region 13 with (fail)
      generalize (wi.setCell ⟨b14, 3, none⟩ (.int .i64 640)).setCell ⟨b14, 4, none⟩ (.float .f64 4607182418800017408) = wj at *
      generalize (Eh.setIfInBounds 3 (.int .i64 640)).setIfInBounds 4 (.float .f64 4607182418800017408) = Ej at *
      clear y3 y4 z3 z4
      obtain ⟨_, _, v0, v1, v2, _⟩ := unhide HX wj HEj.out.below
      have y11 := (HEj.out.cell 11).trans HAj.out.d11
      have y12 := (HEj.out.cell 12).trans HAj.out.d12
      have y13 := (HEj.out.cell 13).trans HAj.out.d13
      have z11 := HEj.out.frozen 11
      have z12 := HEj.out.frozen 12
      have z13 := HEj.out.frozen 13
      have hEk := ((HEj.out.set 11 (.int .u64 (tmW now))).set 12 (.int .i64 (tmE now))).set 13 (.pointer none)
      have hCk := ((HCj.out.setOther (q := 11) hne16 (.int .u64 (tmW now))).setOther (q := 12) hne16 (.int .i64 (tmE now))).setOther (q := 13) hne16 (.pointer none)
      have HAk := hide (HAj.out.setT (tmW now) (tmE now))
      have HEk := hide hEk
      have HCk := hide hCk
      clear hEk hCk HEj HCj HAj
      go_upto_region 14 with (fail)
      generalize ((wj.setCell ⟨b14, 11, none⟩ (.int .u64 (tmW now))).setCell ⟨b14, 12, none⟩ (.int .i64 (tmE now))).setCell ⟨b14, 13, none⟩ (.pointer none) = wk at *
      generalize ((Ej.setIfInBounds 11 (.int .u64 (tmW now))).setIfInBounds 12 (.int .i64 (tmE now))).setIfInBounds 13 (.pointer none) = Ek at *
      clear y11 y12 y13 z11 z12 z13 v0 v1 v2
      have hfd := field0
      go_wp2_with fail
      refine (tcut_any b1 b2 0 _ wk (unhide HX wk HEk.out.below).2.2.2.2.2 HNs.out HSs.out).mono ?_
      rintro e wl ⟨rfl, hbl⟩
      have hEl := HEk.out.grow hbl
      have hCl := HCk.out.below hbl
      have hlow := cutR_le (fun g => cuOf C 3 g + cuOf C 646 g) 0 640 1 (by omega)
      have HG : Hid (∀ r m v, Adm (fun g => cuOf C 3 g + cuOf C 646 g) kn sn r → Out (floatBits .mul .f64 4606281698874543309 r) m → v = max (cutR (fun g => cuOf C 3 g + cuOf C 646 g) m 640 1).1 ((cutR (fun g => cuOf C 3 g + cuOf C 646 g) 0 640 1).1 + 1) → Mrg (fun g => cuOf C 3 g + cuOf C 646 g) kn sn v) := fun r m v h1 h2 h3 => ⟨r, m, h1, h2, h3⟩
      unfold cutV
      generalize cutR (fun g => cuOf C 3 g + cuOf C 646 g) 0 640 1 = low at *
      have HEl := hide hEl
      have HCl := hide hCl
      clear hbl hEl hCl HEk HCk
      go_upto_region 15 with (fail)
      have c0 := HCl.out.c0
      have c1 := HCl.out.c1
      go_cut [86] (fun v wr => ∃ mv : Nat, Mrg (fun g => cuOf C 3 g + cuOf C 646 g) kn sn mv ∧ Exp w6 wr b14 (Ek.setIfInBounds 2 (.int .i64 mv)))
      case first =>
        go_wp2_with fail
        refine (tadm_any b1 b2 kn sn _ wl (unhide HX wl HEl.out.below).2.2.2.2.2 hkn).mono ?_
        rintro e wm ⟨r2, rfl, hadm2, hbm⟩
        have hEm := HEl.out.grow hbm
        have hm2 := run_float_op .mul (by simp) 4606281698874543309 r2 wm
        have HM2 : Hid (Out (floatBits .mul .f64 4606281698874543309 r2) (fo .mul 4606281698874543309 r2 wm)) := fo_out _ _ _ _
        generalize fo .mul 4606281698874543309 r2 wm = m2 at *
        have HEm := hide (hEm.drewN (fd .mul 4606281698874543309 r2))
        have HAd2 := hide hadm2
        clear hEm hbm hadm2 c0 c1
        go_wp2_with fail
        generalize wm.drewN (fd .mul 4606281698874543309 r2) = wn at *
        refine (tcut_any b1 b2 m2 _ wn (unhide HX wn HEm.out.below).2.2.2.2.2 HNs.out HSs.out).mono ?_
        rintro e wo ⟨rfl, hbo⟩
        have hEo := HEm.out.grow hbo
        have hhi := cutR_le (fun g => cuOf C 3 g + cuOf C 646 g) m2 640 1 (by omega)
        have HG2 := hide (unhide HG r2 m2 _ HAd2.out HM2.out rfl)
        unfold cutV
        generalize cutR (fun g => cuOf C 3 g + cuOf C 646 g) m2 640 1 = hi at *
        have y2 := (hEo.cell 2).trans HAk.out.d2
        have z2 := hEo.frozen 2
        have HEo := hide hEo
        clear hEo hbo hm2
        go_wp2_with fail
        all_goals
          go_meet
          refine ⟨max hi.1 (low.1 + 1), HG2.out, ?_⟩
          first
            | (rw [show ((max hi.1 (low.1 + 1) : Nat) : Int) = (low.1 : Int) + 1 by omega]; exact HEo.out.set 2 _)
            | (rw [show ((max hi.1 (low.1 + 1) : Nat) : Int) = (hi.1 : Int) by omega]; exact HEo.out.set 2 _)
      case rest =>
        obtain ⟨mv, hmv, hEp⟩ := hcut
        have HAp := hide (HAk.out.set2 (mv : Int))
        have HMv := hide hmv
        generalize Ek.setIfInBounds 2 (.int .i64 (mv : Int)) = Ep at *
        have y7 := (hEp.cell 7).trans HAp.out.d7
        have z7 := hEp.frozen 7
        have HEq := hide (hEp.set 7 (.float .f64 0))
        have HAq := hide HAp.out.set7
        clear hEp hmv c0 c1 HEl HCl HAk HAp
        have hfin : At w5 B kn sn mv 640 4607182418800017408 k s 0 (tmW lf) (tmE lf) (tmW now) (tmE now) lt C := by
          rcases HSt.out with ⟨h, _⟩ | ⟨_, wq, fa, r, n, mv', hbp, h1, h2, h3, h4, h5⟩
          · rw [hno] at h; cases h
          · have e1 := Fl.out_div h1 HF.out
            have e2 := Fl.out_mul e1 (h2.same HAdm.out) h3 HMu.out
            rw [cutR_same _ e2, HCut.out] at h4 h5
            have e3 : mv' = mv := h4.same HMv.out
            rw [e3] at h5
            exact (HA4.out.bp hbp).moved h5
        have HaB := hide (hfin.below (unhide HY _ HEq.out.below))
        have HaE := hide (HAq.out.at HEq.out.blk)
        clear hfin
        go_wp2_with fail
        refine (same_any B b14 kn sn mv 640 4607182418800017408 k s 0 _ _ _ _ lt _ _ C _ HSh.out.ok HaB.out HaE.out).mono ?_
        rintro e wz ⟨rfl, hbz⟩
        go_wp2_with fail
        go_ret
        exact ⟨rfl, unhide HZ _ (HEq.out.grow hbz).below⟩
    · have hq : ∀ x y, Started w4 w5 B k s x y old lim (fun g => cuOf C 3 g + cuOf C 646 g) → Bp w4 w5 B k s := fun x y h => by
        rcases h with ⟨_, h⟩ | ⟨h, _⟩
        · exact h
        · rw [hno] at h; cases h
      have hbp := hq _ _ HSt.out
      have aB := (HA4.out.bp hbp).below (unhide HY _ HE8.out.below)
      have aE := HA8.out.at HE8.out.blk
      have HaB := hide aB
      have HaE := hide aE
      clear aB aE hbp hq
      go_wp2_with fail
      refine (same_any B b14 k s mf k3 s3 k s cr _ _ _ _ lt _ _ C _ HSh.out.ok HaB.out HaE.out).mono ?_
      rintro e wz ⟨rfl, hbz⟩
      go_wp2_with fail
      go_ret
      exact ⟨rfl, unhide HZ _ (HE8.out.grow hbz).below⟩

end Go.Proofs.YbulkdjfsDoor
