import Derived.Test.YbulkdjfsDoorD
namespace Go.Proofs.YbulkdjfsDoor
open Go.RowKit
open Fl (R Out Nan Same)
attribute [local go_sem] run_store_flt

theorem Moved.after {w w3 w' : World} {B k s mv : Nat} {ta tb : Int} (h : Moved w3 w' B k s ta tb mv) (hb : Below w.heap.size w w3) (hB : B < w.heap.size) : Moved w w' B k s ta tb mv where
  grown := World.grownBy.trans (b := w3) ⟨hb.os, hb.tape, hb.output, hb.size, fun k hk _ => hb.block k hk⟩ h.grown
  free := fun q => (h.free q).trans (hb.frozen (p := ⟨B, q, none⟩) hB)
  c0 := h.c0
  c1 := h.c1
  c2 := h.c2
  c3 := h.c3
  c4 := h.c4
  c7 := h.c7
  c11 := h.c11
  c12 := h.c12
  c13 := h.c13
  rest := fun q hq => (h.rest q hq).trans (hb.cell (p := ⟨B, q, none⟩) hB)

theorem Shd.below {w w' : World} {B : Nat} (h : Shd w B) (hb : Below w.heap.size w w') : Shd w' B :=
  ⟨h.pos, Nat.lt_of_lt_of_le h.lt hb.size, fun q hq => by rw [hb.cell (p := ⟨B, q, none⟩) h.lt]; exact h.some q hq, fun q => by rw [hb.frozen (p := ⟨B, q, none⟩) h.lt]; exact h.free q⟩

theorem two_below {w0 w2 w3 : World} {n : Nat} (h2 : Below w0.drew.heap.size w0.drew w2) (h3 : Below (w2.drewN n).heap.size (w2.drewN n) w3) : Below w0.heap.size w0 w3 := by
  have h := (h2.trans (below_drewN (Below.refl _ w2) n)).trans (h3.mono h2.size)
  exact ⟨h.os, h.tape, h.output, h.size, h.block⟩

theorem move_cut (B n : Nat) (ta tb : Int) (cu pr : Nat → Nat) (w : World) (hS : Shd w B) (hd : Dem w B 15 cu pr) (hnc : NC w) :
    Calls Ybad.prog 18 #[.pointer (some ⟨B, 0, none⟩), .agg #[.int .u64 ta, .int .i64 tb, .pointer none], cutV (fun g => cu g + pr g) n] w fun e w' =>
      ∃ mv, e = .returned (.tuple #[]) ∧ Mrg (fun g => cu g + pr g) (cutR (fun g => cu g + pr g) n 640 1).1 (cutR (fun g => cu g + pr g) n 640 1).2 mv ∧ Moved w w' B (cutR (fun g => cu g + pr g) n 640 1).1 (cutR (fun g => cu g + pr g) n 640 1).2 ta tb mv :=
  move_any B _ _ ta tb cu pr w hS hd hnc (cutR_le _ _ _ _ (by omega))

set_option maxHeartbeats 1600000 in
set_option maxRecDepth 100000 in
theorem scale_any (B k s fa : Nat) (ta tb : Int) (cu pr : Nat → Nat) (w : World) (hS : Shd w B) (hd : Dem w B 15 cu pr) (hnc : NC w) (hk : k ≤ 640)
    (c0 : w.cell? ⟨B, 0, none⟩ = some (.int .i64 k)) (c1 : w.cell? ⟨B, 1, none⟩ = some (.float .f64 s)) :
    Calls Ybad.prog 16 #[.pointer (some ⟨B, 0, none⟩), .agg #[.int .u64 ta, .int .i64 tb, .pointer none], .float .f64 fa] w fun e w' =>
      ∃ r n mv, e = .returned (.tuple #[]) ∧ Adm (fun g => cu g + pr g) k s r ∧ Out (floatBits .mul .f64 fa r) n ∧
        Mrg (fun g => cu g + pr g) (cutR (fun g => cu g + pr g) n 640 1).1 (cutR (fun g => cu g + pr g) n 640 1).2 mv ∧ Moved w w' B (cutR (fun g => cu g + pr g) n 640 1).1 (cutR (fun g => cu g + pr g) n 640 1).2 ta tb mv := by
  go_enter Ybad.func16, Ybad.ntmps16
  go_wp2_with fail
  obtain ⟨w0, hw0⟩ : ∃ w0, w0 = w.alloc (.cells #[.int .u64 ta, .int .i64 tb, .pointer none] 34) := ⟨_, rfl⟩
  have hb0 : Below w.heap.size w w0 := by rw [hw0]; exact (Below.refl _ _).alloc (Nat.le_refl _) _
  have t0 : w0.cell? ⟨w.heap.size, 0, none⟩ = some (.int .u64 ta) := by rw [hw0]; simp
  have t1 : w0.cell? ⟨w.heap.size, 1, none⟩ = some (.int .i64 tb) := by rw [hw0]; simp
  have t2 : w0.cell? ⟨w.heap.size, 2, none⟩ = some (.pointer none) := by rw [hw0]; simp
  have hs0 : w.heap.size < w0.heap.size := by rw [hw0]; simp
  rw [← hw0]
  clear hw0
  have hlt := hS.lt
  have hB0 : B < w0.heap.size := by omega
  have k0 : w0.cell? ⟨B, 0, none⟩ = some (.int .i64 k) := by rw [hb0.cell (p := ⟨B, 0, none⟩) hlt]; exact c0
  have k1 : w0.cell? ⟨B, 1, none⟩ = some (.float .f64 s) := by rw [hb0.cell (p := ⟨B, 1, none⟩) hlt]; exact c1
  have hd0 := hd.below hlt hb0
  have hn0 := hnc.below hb0
  have hS0 := hS.below hb0
  have HD0 := hide hd0
  have HN0 := hide hn0
  have HS0 := hide hS0
  have HB0 := hide hb0
  clear hd hnc hS hd0 hn0 hS0 hb0 c0 c1
  have hmul := fun r => run_float_op .mul (by simp) fa r
  go_region_with (first
    | (go_at_call 24; refine (admitted_any B 15 k s cu pr w0.drew ⟨HD0.out.cur, HD0.out.prev, HD0.out.bcur, HD0.out.bprev⟩ hB0 hk).mono ?_; rintro e w2 ⟨r, rfl, hadm, hb2⟩; have a0 := (hb2.cell (p := ⟨w.heap.size, 0, none⟩) hs0).trans t0; have a1 := (hb2.cell (p := ⟨w.heap.size, 1, none⟩) hs0).trans t1; have a2 := (hb2.cell (p := ⟨w.heap.size, 2, none⟩) hs0).trans t2)
    | (go_at_call 23; refine (cutAt_val B 15 (fo .mul fa r w2) cu pr (w2.drewN (fd .mul fa r)) ((HD0.out.below hB0 ⟨hb2.os, hb2.tape, hb2.output, hb2.size, hb2.block⟩).drewN _) (Nat.lt_of_lt_of_le hB0 hb2.size) ⟨(HN0.out.below ⟨hb2.os, hb2.tape, hb2.output, hb2.size, hb2.block⟩).c0, (HN0.out.below ⟨hb2.os, hb2.tape, hb2.output, hb2.size, hb2.block⟩).c1⟩).mono ?_; rintro e w3 ⟨rfl, hb3⟩; have b0 := (hb3.cell (p := ⟨w.heap.size, 0, none⟩) (Nat.lt_of_lt_of_le hs0 hb2.size)).trans a0; have b1 := (hb3.cell (p := ⟨w.heap.size, 1, none⟩) (Nat.lt_of_lt_of_le hs0 hb2.size)).trans a1; have b2 := (hb3.cell (p := ⟨w.heap.size, 2, none⟩) (Nat.lt_of_lt_of_le hs0 hb2.size)).trans a2)
    | (go_at_call 18; refine (move_cut B (fo .mul fa r w2) ta tb cu pr w3 (HS0.out.below (two_below hb2 hb3)) (HD0.out.below hB0 (two_below hb2 hb3)) (HN0.out.below (two_below hb2 hb3))).mono ?_; rintro e w4 ⟨mv, rfl, hmv, hmoved⟩))
  all_goals
    go_wp2_with fail
    go_end0
    exact ⟨r, _, mv, rfl, hadm, fo_out _ _ _ _, hmv, hmoved.after (HB0.out.trans ((two_below hb2 hb3).mono HB0.out.size)) hlt⟩

end Go.Proofs.YbulkdjfsDoor
