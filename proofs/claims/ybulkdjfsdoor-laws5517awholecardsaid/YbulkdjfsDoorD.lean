import Derived.Test.YbulkdjfsDoorC
import Derived.BigRegion
namespace Go.Proofs.YbulkdjfsDoor
open Go.RowKit
open Fl (R Out Nan Same)
attribute [local go_sem] run_store_flt

/-- A shedder's first fifteen cells can be written. -/
structure Shd (w : World) (B : Nat) : Prop where
  pos : 0 < B
  lt : B < w.heap.size
  some : ∀ q, q < 15 → ∃ v, w.cell? ⟨B, q, none⟩ = some v
  free : ∀ q, w.frozen? ⟨B, q, none⟩ = false

/-- Cells of block B written one behind the other. -/
def upd (B : Nat) : List (Nat × Value) → World → World
  | [], w => w
  | (q, v) :: l, w => upd B l (w.setCell ⟨B, q, none⟩ v)

theorem upd_other (B : Nat) : ∀ (l : List (Nat × Value)) (w : World) (b q : Nat), b ≠ B → (upd B l w).cell? ⟨b, q, none⟩ = w.cell? ⟨b, q, none⟩
  | [], _, _, _, _ => rfl
  | (q', v) :: l, w, b, q, h => by
    rw [upd, upd_other B l _ b q h, World.cell?_setCell_other _ _ _ _ (fun e => h (by cases e; rfl))]

theorem upd_not (B : Nat) : ∀ (l : List (Nat × Value)) (w : World) (q : Nat), (∀ p ∈ l, p.1 ≠ q) → (upd B l w).cell? ⟨B, q, none⟩ = w.cell? ⟨B, q, none⟩
  | [], _, _, _ => rfl
  | (q', v) :: l, w, q, h => by
    rw [upd, upd_not B l _ q (fun p hp => h p (by simp [hp])), World.cell?_setCell_other _ _ _ _ (fun e => h (q', v) (by simp) (by cases e; rfl))]

theorem upd_mem (B : Nat) : ∀ (l : List (Nat × Value)) (w : World) (q : Nat) (v u : Value), l.Pairwise (fun a b => a.1 ≠ b.1) → (q, v) ∈ l → w.cell? ⟨B, q, none⟩ = some u → (upd B l w).cell? ⟨B, q, none⟩ = some v
  | [], _, _, _, _, _, hm, _ => by cases hm
  | (q', v') :: l, w, q, v, u, hp, hm, hu => by
    obtain ⟨h1, h2⟩ := List.pairwise_cons.1 hp
    rcases List.mem_cons.1 hm with e | hm'
    · cases e
      rw [upd, upd_not B l _ _ (fun p hp' => (h1 p hp').symm), World.cell?_setCell_same _ _ _ hu]
    · have hne : q' ≠ q := h1 _ hm'
      rw [upd]
      refine upd_mem B l _ q v u h2 hm' ?_
      rw [World.cell?_setCell_other _ _ _ _ (fun e => hne (by cases e; rfl))]
      exact hu

theorem upd_frozen (B : Nat) : ∀ (l : List (Nat × Value)) (w : World) (a : Addr), (upd B l w).frozen? a = w.frozen? a
  | [], _, _ => rfl
  | (q', v) :: l, w, a => by rw [upd, upd_frozen B l, World.frozen?_setCell]

theorem upd_size (B : Nat) : ∀ (l : List (Nat × Value)) (w : World), (upd B l w).heap.size = w.heap.size
  | [], _ => rfl
  | (q', v) :: l, w => by rw [upd, upd_size B l]; simp

theorem upd_grown (B : Nat) : ∀ (l : List (Nat × Value)) (w : World), w.grownBy (upd B l w) (some B)
  | [], w => World.grownBy.refl _ _
  | (q', v) :: l, w => by
    rw [upd]
    have h1 : w.grownBy (w.setCell ⟨B, q', none⟩ v) (some B) := ⟨rfl, rfl, rfl, by simp, fun i _ hi => Below.heap_setCell _ _ _ _ (fun e => hi (by rw [e]))⟩
    exact h1.trans (upd_grown B l _)

/-- What 'move' leaves: the cut, no cleared cut, the time, the margin, no credit; all else as it was. -/
structure Moved (w w' : World) (B k s : Nat) (ta tb : Int) (mv : Nat) : Prop where
  grown : w.grownBy w' (some B)
  free : ∀ q, w'.frozen? ⟨B, q, none⟩ = w.frozen? ⟨B, q, none⟩
  c0 : w'.cell? ⟨B, 0, none⟩ = some (.int .i64 k)
  c1 : w'.cell? ⟨B, 1, none⟩ = some (.float .f64 s)
  c2 : w'.cell? ⟨B, 2, none⟩ = some (.int .i64 mv)
  c3 : w'.cell? ⟨B, 3, none⟩ = some (.int .i64 640)
  c4 : w'.cell? ⟨B, 4, none⟩ = some (.float .f64 4607182418800017408)
  c7 : w'.cell? ⟨B, 7, none⟩ = some (.float .f64 0)
  c11 : w'.cell? ⟨B, 11, none⟩ = some (.int .u64 ta)
  c12 : w'.cell? ⟨B, 12, none⟩ = some (.int .i64 tb)
  c13 : w'.cell? ⟨B, 13, none⟩ = some (.pointer none)
  rest : ∀ q, q ∉ [0, 1, 2, 3, 4, 7, 11, 12, 13] → w'.cell? ⟨B, q, none⟩ = w.cell? ⟨B, q, none⟩

theorem grown_of_below {w w' : World} (h : Below w.heap.size w w') (row : Option Nat) : w.grownBy w' row := ⟨h.os, h.tape, h.output, h.size, fun k hk _ => h.block k hk⟩

theorem Dem.upd {w : World} {B : Nat} {cu pr : Nat → Nat} (h : Dem w B 15 cu pr) (l : List (Nat × Value)) (hl : ∀ p ∈ l, p.1 < 15) : Dem (upd B l w) B 15 cu pr :=
  ⟨fun g hg => by rw [upd_not B l w _ (fun p hp => by have := hl p hp; omega)]; exact h.cur g hg, fun g hg => by rw [upd_not B l w _ (fun p hp => by have := hl p hp; omega)]; exact h.prev g hg, h.bcur, h.bprev⟩

theorem NC.upd {w : World} (h : NC w) {B : Nat} (hB : 0 < B) (l : List (Nat × Value)) : NC (upd B l w) :=
  ⟨by rw [upd_other B l w 0 0 (by omega)]; exact h.c0, by rw [upd_other B l w 0 1 (by omega)]; exact h.c1⟩

set_option maxHeartbeats 1600000 in
set_option maxRecDepth 100000 in
theorem move_any (B k s : Nat) (ta tb : Int) (cu pr : Nat → Nat) (w : World) (hS : Shd w B) (hd : Dem w B 15 cu pr) (hnc : NC w) (hk : k ≤ 640) :
    Calls Ybad.prog 18 #[.pointer (some ⟨B, 0, none⟩), .agg #[.int .u64 ta, .int .i64 tb, .pointer none], .agg #[.int .i64 k, .float .f64 s]] w fun e w' => ∃ mv, e = .returned (.tuple #[]) ∧ Mrg (fun g => cu g + pr g) k s mv ∧ Moved w w' B k s ta tb mv := by
  go_enter Ybad.func18, Ybad.ntmps18
  go_wp2_with fail
  obtain ⟨w0, hw0⟩ : ∃ w0, w0 = (w.alloc (.cells #[.int .u64 ta, .int .i64 tb, .pointer none] 34)).alloc (.cells #[.int .i64 k, .float .f64 s] 30) := ⟨_, rfl⟩
  rw [← hw0]
  have hb0 : Below w.heap.size w w0 := by rw [hw0]; exact ((Below.refl _ _).alloc (Nat.le_refl _) _).alloc (by simp) _
  have t0 : w0.cell? ⟨w.heap.size, 0, none⟩ = some (.int .u64 ta) := by rw [hw0, World.cell?_alloc_past _ _ _ (by simp)]; simp
  have t1 : w0.cell? ⟨w.heap.size, 1, none⟩ = some (.int .i64 tb) := by rw [hw0, World.cell?_alloc_past _ _ _ (by simp)]; simp
  have t2 : w0.cell? ⟨w.heap.size, 2, none⟩ = some (.pointer none) := by rw [hw0, World.cell?_alloc_past _ _ _ (by simp)]; simp
  have u0 : w0.cell? ⟨w.heap.size + 1, 0, none⟩ = some (.int .i64 k) := by rw [hw0]; simp
  have u1 : w0.cell? ⟨w.heap.size + 1, 1, none⟩ = some (.float .f64 s) := by rw [hw0]; simp
  have hs0 : w0.heap.size = w.heap.size + 2 := by rw [hw0]; simp
  clear hw0
  have hn0 := hnc.below hb0
  have n0 := hn0.c0
  have n1 := hn0.c1
  have hlt := hS.lt
  have hpos := hS.pos
  have HS0 := hide hS.free
  have cc : ∀ q, w0.cell? ⟨B, q, none⟩ = w.cell? ⟨B, q, none⟩ := fun q => hb0.cell (p := ⟨B, q, none⟩) hlt
  have ff : ∀ q, w0.frozen? ⟨B, q, none⟩ = false := fun q => by rw [hb0.frozen (p := ⟨B, q, none⟩) hlt]; exact hS.free q
  obtain ⟨x0, c0⟩ := hS.some 0 (by omega)
  obtain ⟨x1, c1⟩ := hS.some 1 (by omega)
  obtain ⟨x3, c3⟩ := hS.some 3 (by omega)
  obtain ⟨x4, c4⟩ := hS.some 4 (by omega)
  obtain ⟨x11, c11⟩ := hS.some 11 (by omega)
  obtain ⟨x12, c12⟩ := hS.some 12 (by omega)
  obtain ⟨x13, c13⟩ := hS.some 13 (by omega)
  rw [← cc] at c0 c1 c3 c4 c11 c12 c13
  have f0 := ff 0
  have f1 := ff 1
  have f3 := ff 3
  have f4 := ff 4
  have f11 := ff 11
  have f12 := ff 12
  have f13 := ff 13
  have HCC := hide cc
  have HFF := hide ff
  clear cc ff
  have hBne : ¬ w.heap.size = B := by omega
  have hBne1 : ¬ w.heap.size + 1 = B := by omega
  have hB0 : ¬ (0 = B) := by omega
  go_region
  obtain ⟨L, hL⟩ : ∃ L : List (Nat × Value), L = [(0, .int .i64 k), (1, .float .f64 s), (3, .int .i64 640), (4, .float .f64 4607182418800017408), (11, .int .u64 ta), (12, .int .i64 tb), (13, .pointer none)] := ⟨_, rfl⟩
  obtain ⟨w1, hw1⟩ : ∃ w1, w1 = upd B L w0 := ⟨_, rfl⟩
  have hd1 : Dem w1 B 15 cu pr := by rw [hw1]; exact (hd.below hlt hb0).upd L (by rw [hL]; simp)
  have hn1 : NC w1 := by rw [hw1]; exact hn0.upd hpos L
  have v0 : w1.cell? ⟨w.heap.size + 1, 0, none⟩ = some (.int .i64 k) := by rw [hw1, upd_other B L w0 _ _ (by omega)]; exact u0
  have v1 : w1.cell? ⟨w.heap.size + 1, 1, none⟩ = some (.float .f64 s) := by rw [hw1, upd_other B L w0 _ _ (by omega)]; exact u1
  have hs1 : w1.heap.size = w.heap.size + 2 := by rw [hw1, upd_size, hs0]
  have hg1 : w.grownBy w1 (some B) := by rw [hw1]; exact (grown_of_below hb0 _).trans (upd_grown B L w0)
  have hmem : ∀ q v, (q, v) ∈ L → q < 15 → w1.cell? ⟨B, q, none⟩ = some v := fun q v hm hq => by
    obtain ⟨x, hx⟩ := hS.some q hq
    rw [hw1]
    exact upd_mem B L w0 q v x (by rw [hL]; simp) hm (by rw [unhide HCC]; exact hx)
  have hrest : ∀ q, (∀ p ∈ L, p.1 ≠ q) → w1.cell? ⟨B, q, none⟩ = w.cell? ⟨B, q, none⟩ := fun q hq => by rw [hw1, upd_not B L w0 q hq]; exact unhide HCC q
  have hfr : ∀ q, w1.frozen? ⟨B, q, none⟩ = false := fun q => by rw [hw1, upd_frozen]; exact unhide HFF q
  obtain ⟨x2, c2⟩ := hS.some 2 (by omega)
  obtain ⟨x7, c7⟩ := hS.some 7 (by omega)
  have c2' : w1.cell? ⟨B, 2, none⟩ = some x2 := by rw [hrest 2 (by rw [hL]; simp)]; exact c2
  have c7' : w1.cell? ⟨B, 7, none⟩ = some x7 := by rw [hrest 7 (by rw [hL]; simp)]; exact c7
  have hw1' : w1 = ((((((w0.setCell ⟨B, 0, none⟩ (.int .i64 k)).setCell ⟨B, 1, none⟩ (.float .f64 s)).setCell ⟨B, 3, none⟩ (.int .i64 640)).setCell ⟨B, 4, none⟩ (.float .f64 4607182418800017408)).setCell ⟨B, 11, none⟩ (.int .u64 ta)).setCell ⟨B, 12, none⟩ (.int .i64 tb)).setCell ⟨B, 13, none⟩ (.pointer none) := by
    rw [hw1, hL]; rfl
  clear hw1 t0 t1 t2 u0 u1 n0 n1 c0 c1 c3 c4 c11 c12 c13 c2 c7 f0 f1 f3 f4 f11 f12 f13 hn0 hb0 hd hS
  have HD1 := hide hd1
  have HN1 := hide hn1
  have HG1 := hide hg1
  have HM := hide hmem
  have HRs := hide hrest
  have HFr := hide hfr
  clear hd1 hn1 hg1 hmem hrest hfr HCC HFF
  go_wp2_with fail
  rw [← hw1']
  clear hw1'
  have hB1 : B < w1.heap.size := by omega
  have f2 := unhide HFr 2
  have f7 := unhide HFr 7
  go_region_with (go_at_call 26; refine (margin_any B 15 k s cu pr w1.drew.drew ⟨HD1.out.cur, HD1.out.prev, HD1.out.bcur, HD1.out.bprev⟩ hB1 ⟨HN1.out.c0, HN1.out.c1⟩ hk).mono ?_; rintro e w2 ⟨mv, rfl, hmv, hb2⟩; have g2 := (hb2.cell (p := ⟨B, 2, none⟩) hB1).trans c2'; have e2 := (hb2.frozen (p := ⟨B, 2, none⟩) hB1).trans f2; have g7 := (hb2.cell (p := ⟨B, 7, none⟩) hB1).trans c7'; have e7 := (hb2.frozen (p := ⟨B, 7, none⟩) hB1).trans f7)
  go_wp2_with fail
  go_end0
  refine ⟨mv, rfl, hmv, ?_⟩
  have hb2c : ∀ q, w2.cell? ⟨B, q, none⟩ = w1.cell? ⟨B, q, none⟩ := fun q => hb2.cell (p := ⟨B, q, none⟩) hB1
  have hfin : ∀ q v, (q, v) ∈ L → q < 15 → q ≠ 2 → q ≠ 7 → (upd B [(2, .int .i64 mv), (7, .float .f64 0)] w2).cell? ⟨B, q, none⟩ = some v := fun q v hm hq h2 h7 => by
    rw [upd_not B _ w2 q (by simp; omega), hb2c]; exact unhide HM q v hm hq
  exact {
    grown := (unhide HG1).trans (World.grownBy.trans (b := w2) ⟨hb2.os, hb2.tape, hb2.output, hb2.size, fun k hk _ => hb2.block k hk⟩ (upd_grown B [(2, .int .i64 mv), (7, .float .f64 0)] w2))
    free := fun q => by
      show (upd B [(2, .int .i64 mv), (7, .float .f64 0)] w2).frozen? _ = _
      rw [upd_frozen]
      exact (hb2.frozen (p := ⟨B, q, none⟩) hB1).trans ((unhide HFr q).trans (HS0.out q).symm)
    c0 := hfin 0 _ (by rw [hL]; simp) (by omega) (by omega) (by omega)
    c1 := hfin 1 _ (by rw [hL]; simp) (by omega) (by omega) (by omega)
    c2 := upd_mem B [(2, .int .i64 mv), (7, .float .f64 0)] w2 2 _ _ (by simp) (by simp) g2
    c3 := hfin 3 _ (by rw [hL]; simp) (by omega) (by omega) (by omega)
    c4 := hfin 4 _ (by rw [hL]; simp) (by omega) (by omega) (by omega)
    c7 := upd_mem B [(2, .int .i64 mv), (7, .float .f64 0)] w2 7 _ _ (by simp) (by simp) g7
    c11 := hfin 11 _ (by rw [hL]; simp) (by omega) (by omega) (by omega)
    c12 := hfin 12 _ (by rw [hL]; simp) (by omega) (by omega) (by omega)
    c13 := hfin 13 _ (by rw [hL]; simp) (by omega) (by omega) (by omega)
    rest := fun q hq => by
      show (upd B [(2, .int .i64 mv), (7, .float .f64 0)] w2).cell? _ = _
      simp at hq
      rw [upd_not B _ w2 q (by simp; omega), hb2c]
      exact unhide HRs q (by rw [hL]; simp; omega) }

end Go.Proofs.YbulkdjfsDoor
