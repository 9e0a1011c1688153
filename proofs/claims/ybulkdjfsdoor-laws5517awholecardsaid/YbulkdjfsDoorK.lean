import Derived.Test.YbulkdjfsDoorJ
import Derived.ProofKit
import Derived.OpenShut
import Derived.LaidLaws
import Derived.Handed
namespace Go.Proofs.YbulkdjfsDoor
open Go.ChangeShapes Go.WideShapes Go.ChangeAt Go.RowKit

theorem Ybad.own : ownKnob Ybad.prog.godebug = none := by kernel_rfl
theorem Ybad.laidOut : laidOutB Ybad.prog = true := by kernel_rfl
theorem Ybad.cells26 : Ybad.prog.cellsOf 26 = 16 := by kernel_rfl
theorem Ybad.cells30 : Ybad.prog.cellsOf 30 = 2 := by kernel_rfl
theorem Ybad.cells4 : Ybad.prog.cellsOf 4 = 1 := by kernel_rfl
theorem Ybad.cells22 : Ybad.prog.cellsOf 22 = 1 := by kernel_rfl
theorem Ybad.cells23 : Ybad.prog.cellsOf 23 = 1 := by kernel_rfl
theorem Ybad.cells3 : Ybad.prog.cellsOf 3 = 1 := by kernel_rfl
theorem Ybad.cells2 : Ybad.prog.cellsOf 2 = 1 := by kernel_rfl
theorem Ybad.cells24 : Ybad.prog.cellsOf 24 = 1 := by kernel_rfl
theorem Ybad.cells36 : Ybad.prog.cellsOf 36 = 1 := by kernel_rfl

/-- A float, read as data. -/
theorem trod_flt {H : Type} {enc : TypeId × Value → H} {P : Program} {w : World} {base : Nat} {spare : Nat → Bool} {held : Bool} {fuel : Nat} {t : TypeId} {cs : List Value} {x : DataW H × List MemPlace} {k : FloatKind} (ht : P.underlying t = some (.float k))
    (h : DataW.trod enc P w base spare held fuel t cs = some x) : ∃ b, cs = [.float k b] ∧ x = (.lit (.float k b), []) := by
  cases fuel with
  | zero => simp [DataW.trod] at h
  | succ n =>
    unfold DataW.trod at h
    rw [ht] at h
    split at h <;> simp_all

theorem wf_i64 {n : Int} (h : (Lit.int .i64 n).wf = true) : -9223372036854775808 ≤ n ∧ n ≤ 9223372036854775807 := by
  simp [Lit.wf] at h
  have h1 : IntKind.i64.min = -9223372036854775808 := by decide
  have h2 : IntKind.i64.max = 9223372036854775807 := by decide
  omega
theorem wf_u64 {n : Int} (h : (Lit.int .u64 n).wf = true) : 0 ≤ n := by
  simp [Lit.wf] at h
  have h1 : IntKind.u64.min = 0 := by decide
  omega
theorem wf_u32 {n : Int} (h : (Lit.int .u32 n).wf = true) : 0 ≤ n ∧ n < 4294967296 := by
  simp [Lit.wf] at h
  have h1 : IntKind.u32.min = 0 := by decide
  have h2 : IntKind.u32.max = 4294967295 := by decide
  omega

/-- A slice of uint32, opened. -/
theorem open_arg {H : Type} {enc : TypeId × Value → H} {W : World} {fuel : Nat} {v : Value} {x : DataW H × List MemPlace} (hf : DataW.trod enc Ybad.prog W 0 (fun _ => true) true fuel 24 [v] = some x) :
    ∃ a len cap, v = .slice a len cap ∧ Arg32 W a len := by
  rcases open_ints Ybad.underlying24 Ybad.underlying36 Ybad.cells36 hf with ⟨hcs, _⟩ | ⟨a, len, cap, zs, hcs, _, hl, _, hz, _, hcell, hwz⟩
  · simp at hcs
    exact ⟨_, _, _, hcs, .inl rfl⟩
  · simp at hcs
    refine ⟨_, _, _, hcs, ?_⟩
    simp only [if_true] at hz
    by_cases h0 : len = 0
    · exact .inl h0
    · obtain ⟨b, off, rfl, hc⟩ := ints_at hcell (by omega)
      refine .inr ⟨b, off, zs, rfl, World.block_lt_of_cell? _ _ (hc 0 (by omega)), fun j hj => hc j (by omega), fun j => ?_⟩
      by_cases hj : j < zs.length
      · rw [List.getD_eq_getElem?_getD, List.getElem?_eq_getElem hj]
        exact wf_u32 (hwz _ (List.getElem_mem hj))
      · rw [List.getD_eq_getElem?_getD, List.getElem?_eq_none (by omega)]
        simp

/-- 'DataW.trod_struct' with the fields as a list. -/
theorem trod_structL {H : Type} {enc : TypeId × Value → H} {P : Program} {w : World} {base : Nat} {spare : Nat → Bool} {held : Bool} {fuel : Nat} {t : TypeId} {cs : List Value} {x : DataW H × List MemPlace} {l : List Field} (ht : P.underlying t = some (.struct l.toArray))
    (h : DataW.trod enc P w base spare held fuel t cs = some x) :
    ∃ (xs : List (DataW H × List MemPlace)) (n : Nat), x = (.agg (xs.map (·.1)), xs.flatMap (·.2)) ∧ cs.length = P.cellsOf t ∧ xs.length = l.length ∧
      ∀ (i : Nat) (f : Field), l[i]? = some f → DataW.trod enc P w base spare held n f.type ((cs.drop f.offset).take (P.cellsOf f.type)) = xs[i]? := by
  obtain ⟨xs, n, _, hx, hl, hxs, hf⟩ := DataW.trod_struct ht h
  exact ⟨xs, n, hx, hl, by simpa using hxs, fun i f hi => hf i f (by simpa using hi)⟩

/-- The state that came in, as a value. -/
def stVal (nc : Bool) (gr sh : Nat) (mf : Int) (cn : Bool) (cg cs bg bs cr : Nat) (lf lm st lt : Int) (a1 a2 : Option Addr) (l1 l2 p1 p2 : Nat) : Value :=
  .agg #[.bool nc, .int .u64 gr, .float .f64 sh, .int .i64 mf, .bool cn, .int .u64 cg, .float .f64 cs, .int .u64 bg, .float .f64 bs, .float .f64 cr, .int .i64 lf, .int .i64 lm, .int .i64 st, .int .i64 lt, .slice a1 l1 p1, .slice a2 l2 p2]

/-- The state, opened. -/
theorem open_st {H : Type} {enc : TypeId × Value → H} {W : World} {base : Nat} {v : Value} {d : DataW H} {p : List MemPlace} (hv : Value.okWide Ybad.prog W .any base 26 v) (h : DataW.Trod enc Ybad.prog W 0 (fun _ => true) true 26 v d p) :
    ∃ nc gr sh mf cn cg cs bg bs cr lf lm st lt a1 a2 l1 l2 p1 p2, v = stVal nc gr sh mf cn cg cs bg bs cr lf lm st lt a1 a2 l1 l2 p1 p2 ∧ Arg32 W a1 l1 ∧ Arg32 W a2 l2 ∧
      (-9223372036854775808 ≤ st ∧ st ≤ 9223372036854775807) ∧ (-9223372036854775808 ≤ lf ∧ lf ≤ 9223372036854775807) ∧ (-9223372036854775808 ≤ lm ∧ lm ≤ 9223372036854775807) := by
  obtain ⟨cs, rfl, hcs⟩ := okWide_struct Ybad.underlying26 hv
  obtain ⟨fuel, h⟩ := h
  obtain ⟨xs, n, _, _, hxs, hf⟩ := trod_structL Ybad.underlying26 h
  rw [Ybad.cells26] at hcs
  obtain ⟨l⟩ := cs
  simp only [List.size_toArray] at hcs
  match l, hcs with
  | [c0, c1, c2, c3, c4, c5, c6, c7, c8, c9, c10, c11, c12, c13, c14, c15], _ =>
    have hx : ∀ i, i < 16 → ∃ y, xs[i]? = some y := fun i hi => ⟨_, List.getElem?_eq_getElem (by rw [hxs]; exact hi)⟩
    obtain ⟨y0, e0⟩ := hx 0 (by omega)
    obtain ⟨y1, e1⟩ := hx 1 (by omega)
    obtain ⟨y2, e2⟩ := hx 2 (by omega)
    obtain ⟨y3, e3⟩ := hx 3 (by omega)
    obtain ⟨y4, e4⟩ := hx 4 (by omega)
    obtain ⟨y5, e5⟩ := hx 5 (by omega)
    obtain ⟨y6, e6⟩ := hx 6 (by omega)
    obtain ⟨y7, e7⟩ := hx 7 (by omega)
    obtain ⟨y8, e8⟩ := hx 8 (by omega)
    obtain ⟨y9, e9⟩ := hx 9 (by omega)
    obtain ⟨y10, e10⟩ := hx 10 (by omega)
    obtain ⟨y11, e11⟩ := hx 11 (by omega)
    obtain ⟨y12, e12⟩ := hx 12 (by omega)
    obtain ⟨y13, e13⟩ := hx 13 (by omega)
    obtain ⟨y14, e14⟩ := hx 14 (by omega)
    obtain ⟨y15, e15⟩ := hx 15 (by omega)
    have q0 := (hf 0 _ rfl).trans e0
    have q1 := (hf 1 _ rfl).trans e1
    have q2 := (hf 2 _ rfl).trans e2
    have q3 := (hf 3 _ rfl).trans e3
    have q4 := (hf 4 _ rfl).trans e4
    have q5 := (hf 5 _ rfl).trans e5
    have q6 := (hf 6 _ rfl).trans e6
    have q7 := (hf 7 _ rfl).trans e7
    have q8 := (hf 8 _ rfl).trans e8
    have q9 := (hf 9 _ rfl).trans e9
    have q10 := (hf 10 _ rfl).trans e10
    have q11 := (hf 11 _ rfl).trans e11
    have q12 := (hf 12 _ rfl).trans e12
    have q13 := (hf 13 _ rfl).trans e13
    have q14 := (hf 14 _ rfl).trans e14
    have q15 := (hf 15 _ rfl).trans e15
    simp only [Value.cells, Ybad.cells4, Ybad.cells22, Ybad.cells23, Ybad.cells3, Ybad.cells2, Ybad.cells24, List.drop_succ_cons, List.drop_zero, List.take_succ_cons, List.take_zero] at q0 q1 q2 q3 q4 q5 q6 q7 q8 q9 q10 q11 q12 q13 q14 q15
    obtain ⟨nc, r0, _⟩ := DataW.trod_bool Ybad.underlying4 q0
    obtain ⟨gr, r1, _, w1⟩ := DataW.trod_int Ybad.underlying22 q1
    obtain ⟨sh, r2, _⟩ := trod_flt Ybad.underlying23 q2
    obtain ⟨mf, r3, _, w3⟩ := DataW.trod_int Ybad.underlying3 q3
    obtain ⟨cn, r4, _⟩ := DataW.trod_bool Ybad.underlying4 q4
    obtain ⟨cg, r5, _, w5⟩ := DataW.trod_int Ybad.underlying22 q5
    obtain ⟨cs, r6, _⟩ := trod_flt Ybad.underlying23 q6
    obtain ⟨bg, r7, _, w7⟩ := DataW.trod_int Ybad.underlying22 q7
    obtain ⟨bs, r8, _⟩ := trod_flt Ybad.underlying23 q8
    obtain ⟨cr, r9, _⟩ := trod_flt Ybad.underlying23 q9
    obtain ⟨lf, r10, _, w10⟩ := DataW.trod_int Ybad.underlying2 q10
    obtain ⟨lm, r11, _, w11⟩ := DataW.trod_int Ybad.underlying2 q11
    obtain ⟨st, r12, _, w12⟩ := DataW.trod_int Ybad.underlying2 q12
    obtain ⟨lt, r13, _, w13⟩ := DataW.trod_int Ybad.underlying2 q13
    obtain ⟨a1, l1, p1, r14, g1⟩ := open_arg q14
    obtain ⟨a2, l2, p2, r15, g2⟩ := open_arg q15
    have n1 := wf_u64 w1
    have n5 := wf_u64 w5
    have n7 := wf_u64 w7
    simp only [List.cons.injEq, and_true] at r0 r1 r2 r3 r4 r5 r6 r7 r8 r9 r10 r11 r12 r13
    subst r0 r1 r2 r3 r4 r5 r6 r7 r8 r9 r10 r11 r12 r13 r14 r15
    refine ⟨nc, gr.toNat, sh, mf, cn, cg.toNat, cs, bg.toNat, bs, cr, lf, lm, st, lt, a1, a2, l1, l2, p1, p2, ?_, g1, g2, wf_i64 w12, wf_i64 w10, wf_i64 w11⟩
    unfold stVal
    rw [Int.toNat_of_nonneg n1, Int.toNat_of_nonneg n5, Int.toNat_of_nonneg n7]

/-- What 'laid' gives a walk: the two cells of noCut. -/
theorem nc_of_laid {W : World} (h : laidMet Ybad.prog Rows.lawS5517ARestoreRow.laid W) : NC W := by
  obtain ⟨ps, ⟨g, t, cs, fuel, p, q, hg, ht, hvar, hd, _, _⟩, _⟩ := h
  obtain rfl : g = 0 := Option.some.inj (hg.symm.trans (by kernel_rfl))
  obtain rfl : t = 30 := Option.some.inj (ht.symm.trans (by kernel_rfl))
  obtain ⟨xs, n, hx, hl, hxs, hf⟩ := trod_structL Ybad.underlying30 hd
  rw [Ybad.cells30] at hl
  obtain ⟨l⟩ := cs
  simp only at hl
  match l, hl with
  | [c0, c1], _ =>
    match xs, hxs with
    | [y0, y1], _ =>
      have q0 := hf 0 _ rfl
      have q1 := hf 1 _ rfl
      simp only [Ybad.cells23, Ybad.cells3, List.drop_succ_cons, List.drop_zero, List.take_succ_cons, List.take_zero, List.getElem?_cons_zero, List.getElem?_cons_succ] at q0 q1
      obtain ⟨k, r0, z0, _⟩ := DataW.trod_int Ybad.underlying3 q0
      obtain ⟨s, r1, z1⟩ := trod_flt Ybad.underlying23 q1
      simp only [List.cons.injEq, and_true] at r0 r1
      subst r0 r1 z0 z1
      simp [Rows.laid_example_com_headroom_headroom_noCut] at hx
      obtain ⟨⟨rfl, rfl⟩, _⟩ := hx
      exact ⟨by simpa using World.var?_cell hg hvar 0, by simpa using World.var?_cell hg hvar 1⟩

end Go.Proofs.YbulkdjfsDoor
