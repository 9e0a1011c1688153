import Derived.Test.YbulkdjfsDoorE
namespace Go.Proofs.YbulkdjfsDoor
open Go.RowKit
open Fl (R Out Nan Same)
attribute [local go_sem] run_store_flt

/-- The cut is noCut. -/
def isNo (k s : Nat) : Bool := k == 640 && (Ieee.double.order s 4607182418800017408 == some .eq)

theorem run_eq_float (d a b : Nat) (w : World) : (Op.equalIn (d + 1) 23 (.float .f64 a) (.float .f64 b)).run Ybad.prog w = .ok (Ieee.double.order a b == some .eq) w := by
  unfold Op.equalIn
  simp [Ybad.runUnderlying23, Op.floatEq]
  rfl

theorem run_neq_cut (k s : Nat) (w : World) : (binOp .neq 30 (.agg #[.int .i64 k, .float .f64 s]) (.agg #[.int .i64 640, .float .f64 4607182418800017408])).run Ybad.prog w = .ok (.bool !(isNo k s)) w := by
  have e := run_eq_float 9998 s 4607182418800017408 w
  unfold isNo
  simp [go_sem, e]
  by_cases h : k = 640
  · subst h
    cases he : (Ieee.double.order s 4607182418800017408 == some .eq)
    · simpa using he
    · simpa using he
  · rw [if_neg (by omega), beq_eq_false_iff_ne.2 h]
    rfl

/-- The cut is kept in 'beforeProbe'; all else as it was. -/
structure Bp (w w' : World) (B k s : Nat) : Prop where
  grown : w.grownBy w' (some B)
  free : ∀ q, w'.frozen? ⟨B, q, none⟩ = w.frozen? ⟨B, q, none⟩
  c5 : w'.cell? ⟨B, 5, none⟩ = some (.int .i64 k)
  c6 : w'.cell? ⟨B, 6, none⟩ = some (.float .f64 s)
  rest : ∀ q, q ≠ 5 → q ≠ 6 → w'.cell? ⟨B, q, none⟩ = w.cell? ⟨B, q, none⟩

theorem Bp.dem {w w' : World} {B k s : Nat} {cu pr : Nat → Nat} (h : Bp w w' B k s) (hd : Dem w B 15 cu pr) : Dem w' B 15 cu pr :=
  ⟨fun g hg => by rw [h.rest _ (by omega) (by omega)]; exact hd.cur g hg, fun g hg => by rw [h.rest _ (by omega) (by omega)]; exact hd.prev g hg, hd.bcur, hd.bprev⟩

theorem Bp.drewN {w w' : World} {B k s : Nat} (h : Bp w w' B k s) (n : Nat) : Bp w (w'.drewN n) B k s :=
  ⟨⟨h.grown.os, h.grown.tape, h.grown.output, h.grown.size, h.grown.block⟩, h.free, h.c5, h.c6, h.rest⟩

theorem NC.grown {w w' : World} {B : Nat} (h : NC w) (hB : 0 < B) (hg : w.grownBy w' (some B)) : NC w' :=
  ⟨hg.cell h.c0 (by simp; omega), hg.cell h.c1 (by simp; omega)⟩

theorem Bp.shd {w w' : World} {B k s : Nat} (h : Bp w w' B k s) (hS : Shd w B) : Shd w' B := by
  refine ⟨hS.pos, Nat.lt_of_lt_of_le hS.lt h.grown.size, fun q hq => ?_, fun q => by rw [h.free]; exact hS.free q⟩
  by_cases h5 : q = 5
  · subst h5; exact ⟨_, h.c5⟩
  · by_cases h6 : q = 6
    · subst h6; exact ⟨_, h.c6⟩
    · rw [h.rest q h5 h6]; exact hS.some q hq

/-- What 'probeStarted' leaves. -/
def Started (w w' : World) (B k s : Nat) (ta tb old lim : Int) (N : Nat → Nat) : Prop :=
  (isNo k s = true ∧ Bp w w' B k s) ∨
  (isNo k s = false ∧ ∃ w1 fa r n mv, Bp w w1 B k s ∧ Out (floatBits .quo .f64 (floatOfInt .f64 lim) (floatOfInt .f64 old)) fa ∧ Adm N k s r ∧ Out (floatBits .mul .f64 fa r) n ∧
    Mrg N (cutR N n 640 1).1 (cutR N n 640 1).2 mv ∧ Moved w1 w' B (cutR N n 640 1).1 (cutR N n 640 1).2 ta tb mv)

set_option maxHeartbeats 1600000 in
set_option maxRecDepth 100000 in
theorem started_any (B k s : Nat) (ta tb old lim : Int) (cu pr : Nat → Nat) (w : World) (hS : Shd w B) (hd : Dem w B 15 cu pr) (hnc : NC w) (hk : k ≤ 640)
    (c0 : w.cell? ⟨B, 0, none⟩ = some (.int .i64 k)) (c1 : w.cell? ⟨B, 1, none⟩ = some (.float .f64 s)) :
    Calls Ybad.prog 7 #[.pointer (some ⟨B, 0, none⟩), .agg #[.int .u64 ta, .int .i64 tb, .pointer none], .int .i64 old, .int .i64 lim] w fun e w' =>
      e = .returned (.tuple #[]) ∧ Started w w' B k s ta tb old lim (fun g => cu g + pr g) := by
  have hlt := hS.lt
  have hpos := hS.pos
  have hB0 : ¬ B = 0 := by omega
  have hB1 : ¬ 0 = B := by omega
  obtain ⟨x5, c5⟩ := hS.some 5 (by omega)
  obtain ⟨x6, c6⟩ := hS.some 6 (by omega)
  have f5 := hS.free 5
  have f6 := hS.free 6
  have n0 := hnc.c0
  have n1 := hnc.c1
  have hneq := run_neq_cut k s
  have hz := hnc.lt
  have HS := hide hS
  have HN := hide hnc
  have HD := hide hd
  clear hS hnc hd
  go_enter Ybad.func7, Ybad.ntmps7
  go_wp2_with fail
  obtain ⟨w1, hw1⟩ : ∃ w1, w1 = ((w.setCell ⟨B, 5, none⟩ (.int .i64 k)).setCell ⟨B, 6, none⟩ (.float .f64 s)).alloc (.cells #[.int .u64 ta, .int .i64 tb, .pointer none] 34) := ⟨_, rfl⟩
  have hbu : Below (upd B [(5, .int .i64 k), (6, .float .f64 s)] w).heap.size (upd B [(5, .int .i64 k), (6, .float .f64 s)] w) w1 := by rw [hw1]; exact (Below.refl _ _).alloc (Nat.le_refl _) _
  have hus : (upd B [(5, .int .i64 k), (6, .float .f64 s)] w).heap.size = w.heap.size := upd_size _ _ _
  have hcu : ∀ q, w1.cell? ⟨B, q, none⟩ = (upd B [(5, .int .i64 k), (6, .float .f64 s)] w).cell? ⟨B, q, none⟩ := fun q => hbu.cell (p := ⟨B, q, none⟩) (by rw [hus]; exact hlt)
  have hbp : Bp w w1 B k s := {
    grown := (upd_grown B _ w).trans (grown_of_below hbu _)
    free := fun q => (hbu.frozen (p := ⟨B, q, none⟩) (by rw [hus]; exact hlt)).trans (upd_frozen B _ w _)
    c5 := by rw [hcu]; exact upd_mem B _ w 5 _ x5 (by simp) (by simp) c5
    c6 := by rw [hcu]; exact upd_mem B _ w 6 _ x6 (by simp) (by simp) c6
    rest := fun q h5 h6 => by rw [hcu]; exact upd_not B _ w q (by simp; omega) }
  have k0 : w1.cell? ⟨B, 0, none⟩ = some (.int .i64 k) := by rw [hbp.rest 0 (by omega) (by omega)]; exact c0
  have k1 : w1.cell? ⟨B, 1, none⟩ = some (.float .f64 s) := by rw [hbp.rest 1 (by omega) (by omega)]; exact c1
  have hn1 := HN.out.grown hpos hbp.grown
  have m0 := hn1.c0
  have m1 := hn1.c1
  have hsz : w1.heap.size = w.heap.size + 1 := by rw [hw1]; simp
  have t0 : w1.cell? ⟨w.heap.size, 0, none⟩ = some (.int .u64 ta) := by
    rw [hw1]; have := World.cell?_alloc_new ((w.setCell ⟨B, 5, none⟩ (.int .i64 k)).setCell ⟨B, 6, none⟩ (.float .f64 s)) #[.int .u64 ta, .int .i64 tb, .pointer none] 34 0; simpa using this
  have t1 : w1.cell? ⟨w.heap.size, 1, none⟩ = some (.int .i64 tb) := by
    rw [hw1]; have := World.cell?_alloc_new ((w.setCell ⟨B, 5, none⟩ (.int .i64 k)).setCell ⟨B, 6, none⟩ (.float .f64 s)) #[.int .u64 ta, .int .i64 tb, .pointer none] 34 1; simpa using this
  have t2 : w1.cell? ⟨w.heap.size, 2, none⟩ = some (.pointer none) := by
    rw [hw1]; have := World.cell?_alloc_new ((w.setCell ⟨B, 5, none⟩ (.int .i64 k)).setCell ⟨B, 6, none⟩ (.float .f64 s)) #[.int .u64 ta, .int .i64 tb, .pointer none] 34 2; simpa using this
  rw [← hw1]
  clear hw1 hbu hus hcu c5 c6 f5 f6 n0 n1 c0 c1
  have HBp := hide hbp
  have HN1 := hide hn1
  clear hbp hn1
  cases hno : isNo k s
  · rw [hno] at hneq
    have hq := run_float_op .quo (by simp) (floatOfInt .f64 lim) (floatOfInt .f64 old)
    go_quiet (fail)
    go_wp2_with fail
    have hbp' := HBp.out.drewN (nq + fd .quo (floatOfInt .f64 lim) (floatOfInt .f64 old))
    refine (scale_any B k s _ ta tb cu pr (w1.drewN (nq + fd .quo (floatOfInt .f64 lim) (floatOfInt .f64 old))) (hbp'.shd HS.out) (hbp'.dem HD.out) (HN.out.grown hpos hbp'.grown) hk k0 k1).mono ?_
    rintro e w2 ⟨r, n, mv, rfl, h1, h2, h3, h4⟩
    go_wp2_with fail
    go_end0
    exact ⟨rfl, .inr ⟨hno, _, _, r, n, mv, hbp', fo_out _ _ _ _, h1, h2, h3, h4⟩⟩
  · rw [hno] at hneq
    go_quiet (fail)
    go_wp2_with fail
    go_end0
    exact ⟨rfl, .inl ⟨hno, HBp.out.drewN _⟩⟩

set_option maxHeartbeats 1600000 in
set_option maxRecDepth 100000 in
theorem ended_any (B k s : Nat) (ta tb : Int) (cu pr : Nat → Nat) (w : World) (hS : Shd w B) (hd : Dem w B 15 cu pr) (hnc : NC w) (hk : k ≤ 640)
    (c5 : w.cell? ⟨B, 5, none⟩ = some (.int .i64 k)) (c6 : w.cell? ⟨B, 6, none⟩ = some (.float .f64 s)) :
    Calls Ybad.prog 13 #[.pointer (some ⟨B, 0, none⟩), .agg #[.int .u64 ta, .int .i64 tb, .pointer none]] w fun e w' =>
      ∃ mv, e = .returned (.tuple #[]) ∧ Moved w w' B k s ta tb mv := by
  have hlt := hS.lt
  go_enter Ybad.func13, Ybad.ntmps13
  go_wp2_with fail
  obtain ⟨w0, hw0⟩ : ∃ w0, w0 = w.alloc (.cells #[.int .u64 ta, .int .i64 tb, .pointer none] 34) := ⟨_, rfl⟩
  have hb0 : Below w.heap.size w w0 := by rw [hw0]; exact (Below.refl _ _).alloc (Nat.le_refl _) _
  have t0 : w0.cell? ⟨w.heap.size, 0, none⟩ = some (.int .u64 ta) := by rw [hw0]; simp
  have t1 : w0.cell? ⟨w.heap.size, 1, none⟩ = some (.int .i64 tb) := by rw [hw0]; simp
  have t2 : w0.cell? ⟨w.heap.size, 2, none⟩ = some (.pointer none) := by rw [hw0]; simp
  rw [← hw0]
  clear hw0
  have k5 : w0.cell? ⟨B, 5, none⟩ = some (.int .i64 k) := by rw [hb0.cell (p := ⟨B, 5, none⟩) hlt]; exact c5
  have k6 : w0.cell? ⟨B, 6, none⟩ = some (.float .f64 s) := by rw [hb0.cell (p := ⟨B, 6, none⟩) hlt]; exact c6
  have HS := hide (hS.below hb0)
  have HD := hide (hd.below hlt hb0)
  have HN := hide (hnc.below hb0)
  have HB := hide hb0
  clear hS hd hnc hb0 c5 c6
  go_region_with (go_at_call 18; refine (move_any B k s ta tb cu pr w0.drew ⟨HS.out.pos, HS.out.lt, HS.out.some, HS.out.free⟩ ⟨HD.out.cur, HD.out.prev, HD.out.bcur, HD.out.bprev⟩ ⟨HN.out.c0, HN.out.c1⟩ hk).mono ?_; rintro e w4 ⟨mv, rfl, hmv, hmoved⟩)
  all_goals
    go_wp2_with fail
    go_end0
    exact ⟨mv, rfl, hmoved.after HB.out.drew hlt⟩

end Go.Proofs.YbulkdjfsDoor
