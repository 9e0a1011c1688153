import Derived.Test.YbulkdjfsDoorI
namespace Go.Proofs.YbulkdjfsDoor
open Go.RowKit
open Fl (R Out Nan Same)
attribute [local go_sem] run_store_flt

theorem Arg32.below {w w' : World} {a : Option Addr} {n : Nat} (h : Arg32 w a n) (hb : Below w.heap.size w w') : Arg32 w' a n := by
  rcases h with h | ⟨b, off, zs, rfl, hbl, hc, hz⟩
  · exact .inl h
  · exact .inr ⟨b, off, zs, rfl, Nat.lt_of_lt_of_le hbl hb.size, fun j hj => (hb.cell (p := ⟨b, off + j, none⟩) hbl).trans (hc j hj), hz⟩

theorem Moved.shd {w w' : World} {B k s mv : Nat} {ta tb : Int} (h : Moved w w' B k s ta tb mv) (hS : Shd w B) : Shd w' B := by
  refine ⟨hS.pos, Nat.lt_of_lt_of_le hS.lt h.grown.size, fun q hq => ?_, fun q => by rw [h.free]; exact hS.free q⟩
  by_cases hm : q ∈ [0, 1, 2, 3, 4, 7, 11, 12, 13]
  · simp at hm
    rcases hm with rfl | rfl | rfl | rfl | rfl | rfl | rfl | rfl | rfl
    · exact ⟨_, h.c0⟩
    · exact ⟨_, h.c1⟩
    · exact ⟨_, h.c2⟩
    · exact ⟨_, h.c3⟩
    · exact ⟨_, h.c4⟩
    · exact ⟨_, h.c7⟩
    · exact ⟨_, h.c11⟩
    · exact ⟨_, h.c12⟩
    · exact ⟨_, h.c13⟩
  · rw [h.rest q hm]; exact hS.some q hq

theorem Started.shd {w w' : World} {B k s : Nat} {ta tb old lim : Int} {N : Nat → Nat} (h : Started w w' B k s ta tb old lim N) (hS : Shd w B) : Shd w' B := by
  rcases h with ⟨_, h⟩ | ⟨_, w1, fa, r, n, mv, h1, _, _, _, _, h2⟩
  · exact h.shd hS
  · exact h2.shd (h1.shd hS)

theorem Cut.grown {w w' : World} {b k s B : Nat} (h : Cut w b k s) (hb : b ≠ B) (hg : w.grownBy w' (some B)) : Cut w' b k s :=
  ⟨Nat.lt_of_lt_of_le h.lt hg.size, h.le, hg.cell h.c0 (by simp; omega), hg.cell h.c1 (by simp; omega)⟩

theorem eq_nil_ptr (w : World) : (Op.equalIn 9999 32 (.pointer none) (.pointer none)).run Ybad.prog w = .ok true w := by kernel_rfl

theorem run_eq_tm (a b : Int) (w : World) : (binOp .eql 34 (.agg #[.int .u64 a, .int .i64 b, .pointer none]) (.agg #[.int .u64 a, .int .i64 b, .pointer none])).run Ybad.prog w = .ok (.bool true) w := by
  have h := eq_nil_ptr w
  simp [go_sem, h]

theorem order_zero_zero : (FloatKind.f64.format.order 0 0 == some Ordering.eq) = true := by decide

theorem run_eq_zero (w : World) : (binOp .eql 23 (.float .f64 0) (.float .f64 0)).run Ybad.prog w = .ok (.bool true) w := by
  kernel_rfl

set_option maxHeartbeats 1600000 in
set_option maxRecDepth 100000 in
theorem restore_any (nc : Bool) (gr sh : Nat) (mf : Int) (cn : Bool) (cg cs bg bs cr : Nat) (lf lm st lt now en old lim : Int) (a1 a2 : Option Addr) (l1 l2 p1 p2 : Nat) (w : World) (hnc : NC w)
    (hst0 : -9223372036854775808 ≤ st) (hst1 : st ≤ 9223372036854775807) (hlf0 : -9223372036854775808 ≤ lf) (hlf1 : lf ≤ 9223372036854775807) (hlm0 : -9223372036854775808 ≤ lm) (hlm1 : lm ≤ 9223372036854775807)
    (hnow0 : -9223372036854775808 ≤ now) (hnow1 : now ≤ 9223372036854775807) (hen0 : -9223372036854775808 ≤ en) (hen1 : en ≤ 9223372036854775807) (h1 : Arg32 w a1 l1) (h2 : Arg32 w a2 l2) :
    Calls Ybad.prog 4 #[.agg #[.bool nc, .int .u64 gr, .float .f64 sh, .int .i64 mf, .bool cn, .int .u64 cg, .float .f64 cs, .int .u64 bg, .float .f64 bs, .float .f64 cr, .int .i64 lf, .int .i64 lm, .int .i64 st, .int .i64 lt, .slice a1 l1 p1, .slice a2 l2 p2], .int .i64 now, .int .i64 en, .int .i64 old, .int .i64 lim] w fun e w' =>
      e = .returned (.bool true) ∧ Below w.heap.size w w' := by
  have H1 := hide h1
  have H2 := hide h2
  have HN := hide hnc
  clear h1 h2 hnc
  go_enter Ybad.func4, Ybad.ntmps4
  go_wp2_with fail
  obtain ⟨w0, hw0⟩ : ∃ w0, w0 = w.alloc (.cells #[.bool nc, .int .u64 gr, .float .f64 sh, .int .i64 mf, .bool cn, .int .u64 cg, .float .f64 cs, .int .u64 bg, .float .f64 bs, .float .f64 cr, .int .i64 lf, .int .i64 lm, .int .i64 st, .int .i64 lt, .slice a1 l1 p1, .slice a2 l2 p2] 26) := ⟨_, rfl⟩
  rw [← hw0]
  have hb0 : Below w.heap.size w w0 := by rw [hw0]; exact (Below.refl _ _).alloc (Nat.le_refl _) _
  have hs0 : w0.heap.size = w.heap.size + 1 := by rw [hw0]; simp
  clear hw0
  refine (build_any nc gr sh mf cn cg cs bg bs cr lf lm st lt a1 a2 l1 l2 p1 p2 w0 hst0 hst1 hlf0 hlf1 hlm0 hlm1 (H1.out.below hb0) (H2.out.below hb0)).mono ?_
  rintro e w1 ⟨B, D, C, k, s, k3, s3, k5, rfl, hm⟩
  have hS1 := hm.shd (by omega)
  have hd1 := hm.dem
  have hn1 := (HN.out.below hb0).below hm.below
  have c0 := (hm.cell 0).trans hm.sh.d0
  have c1 := (hm.cell 1).trans hm.sh.d1
  have hk := hm.sh.le
  have hlt := hm.lt
  have hB := hm.new
  have hb1 := hb0.trans (hm.below.mono hb0.size)
  have HS1 := hide hS1
  have HD1 := hide hd1
  have HN1 := hide hn1
  have HB1 := hide hb1
  clear hS1 hd1 hn1 hb1 hm hb0
  go_wp2_with fail
  have hcut : Cut (w1.alloc (.cells #[.int .i64 k, .float .f64 s] 30)) w1.heap.size k s := ⟨by simp, hk, by simp, by simp⟩
  have hb2 : Below w1.heap.size w1 (w1.alloc (.cells #[.int .i64 k, .float .f64 s] 30)) := (Below.refl _ _).alloc (Nat.le_refl _) _
  generalize w1.alloc (.cells #[.int .i64 k, .float .f64 s] 30) = w2 at *
  refine (at_agg now _ hnow0 hnow1).mono ?_
  rintro e w3 ⟨rfl, hb3⟩
  have hcut3 := hcut.below hb3
  have hb13 := hb2.trans (hb3.mono hb2.size)
  have hS3 := HS1.out.below hb13
  have hd3 := HD1.out.below hlt hb13
  have hn3 := HN1.out.below hb13
  have c03 := (hb13.cell (p := ⟨B, 0, none⟩) hlt).trans c0
  have c13 := (hb13.cell (p := ⟨B, 1, none⟩) hlt).trans c1
  have hb03 := HB1.out.trans (hb13.mono HB1.out.size)
  have hBb : w1.heap.size ≠ B := by omega
  generalize w1.heap.size = b12 at *
  have HC3 := hide hcut3
  have HS3 := hide hS3
  have HD3 := hide hd3
  have HN3 := hide hn3
  have HB03 := hide hb03
  clear hcut hcut3 hb13 hb2 hb3 hS3 hd3 hn3 hb03 HS1 HD1 HN1 HB1 c0 c1
  go_wp2_with fail
  refine (started_any B k s _ _ old lim _ _ w3 HS3.out HD3.out HN3.out hk c03 c13).mono ?_
  rintro e w4 ⟨rfl, hst⟩
  obtain ⟨g4, fr4, c54, c64, r4⟩ := hst.keeps
  have hcut4 := HC3.out.grown hBb g4
  have hb04 := HB03.out.grown g4 HB03.out.size (by simp; omega)
  have hS4 := hst.shd HS3.out
  have hd4 : Dem w4 B 15 (cuOf C 3) (cuOf C 646) := ⟨fun g hg => by rw [r4 _ (by omega)]; exact HD3.out.cur g hg, fun g hg => by rw [r4 _ (by omega)]; exact HD3.out.prev g hg, HD3.out.bcur, HD3.out.bprev⟩
  have hn4 := HN3.out.grown HS3.out.pos g4
  have HC4 := hide hcut4
  have HS4 := hide hS4
  have HD4 := hide hd4
  have HN4 := hide hn4
  have HB04 := hide hb04
  clear hst hcut4 hS4 hd4 hn4 hb04 g4 fr4 r4 HC3 HS3 HD3 HN3 HB03 c03 c13
  go_wp2_with fail
  refine (at_agg en _ hen0 hen1).mono ?_
  rintro e w5 ⟨rfl, hb5⟩
  have hlt4 := HS4.out.lt
  have hcut5 := HC4.out.below hb5
  have hS5 := HS4.out.below hb5
  have hd5 := HD4.out.below hlt4 hb5
  have hn5 := HN4.out.below hb5
  have c55 := (hb5.cell (p := ⟨B, 5, none⟩) hlt4).trans c54
  have c65 := (hb5.cell (p := ⟨B, 6, none⟩) hlt4).trans c64
  have hb05 := HB04.out.trans (hb5.mono HB04.out.size)
  have HC5 := hide hcut5
  have HS5 := hide hS5
  have HD5 := hide hd5
  have HN5 := hide hn5
  have HB05 := hide hb05
  clear hcut5 hS5 hd5 hn5 hb05 hb5 c54 c64 HC4 HS4 HD4 HN4 HB04
  go_wp2_with fail
  refine (ended_any B k s _ _ _ _ w5 HS5.out HD5.out HN5.out hk c55 c65).mono ?_
  rintro e w6 ⟨mv, rfl, hmv⟩
  have hcut6 := HC5.out.grown hBb hmv.grown
  have hb06 := HB05.out.grown hmv.grown HB05.out.size (by simp; omega)
  have hlt6 := Nat.lt_of_lt_of_le HS5.out.lt hmv.grown.size
  have HC6 := hide hcut6
  have HB06 := hide hb06
  have HM := hide hmv
  clear hcut6 hb06 hmv HC5 HS5 HD5 HN5 HB05 c55 c65
  have HS : Hid (∀ w', Below w6.heap.size w6 w' → Below w6.heap.size w6 w' ∧ w'.cell? ⟨B, 0, none⟩ = some (.int .i64 k) ∧ w'.cell? ⟨B, 1, none⟩ = some (.float .f64 s) ∧ w'.cell? ⟨B, 3, none⟩ = some (.int .i64 640) ∧ w'.cell? ⟨B, 4, none⟩ = some (.float .f64 4607182418800017408) ∧ w'.cell? ⟨B, 7, none⟩ = some (.float .f64 0) ∧
      w'.cell? ⟨B, 11, none⟩ = some (.int .u64 (tmW en)) ∧ w'.cell? ⟨B, 12, none⟩ = some (.int .i64 (tmE en)) ∧ w'.cell? ⟨B, 13, none⟩ = some (.pointer none) ∧ w'.cell? ⟨b12, 0, none⟩ = some (.int .i64 k) ∧ w'.cell? ⟨b12, 1, none⟩ = some (.float .f64 s)) := fun w' hb => by
    have kk := kept_below hb hlt6
    have h6 := HC6.out.below hb
    exact ⟨hb, (kk _).trans HM.out.c0, (kk _).trans HM.out.c1, (kk _).trans HM.out.c3, (kk _).trans HM.out.c4, (kk _).trans HM.out.c7, (kk _).trans HM.out.c11, (kk _).trans HM.out.c12, (kk _).trans HM.out.c13, h6.c0, h6.c1⟩
  obtain ⟨s0, t0, t1, t3, t4, t7, t11, t12, t13, t20, t21⟩ := unhide HS w6 (Below.refl _ _)
  have heq := run_eq_tm (tmW en) (tmE en)
  have hez := run_eq_zero
  go_upto_region 5 with (fail)
  go_region_held3 (fun w' => Below w6.heap.size w6 w' ∧ w'.cell? ⟨B, 0, none⟩ = some (.int .i64 k) ∧ w'.cell? ⟨B, 1, none⟩ = some (.float .f64 s) ∧ w'.cell? ⟨B, 3, none⟩ = some (.int .i64 640) ∧ w'.cell? ⟨B, 4, none⟩ = some (.float .f64 4607182418800017408) ∧ w'.cell? ⟨B, 7, none⟩ = some (.float .f64 0) ∧
      w'.cell? ⟨B, 11, none⟩ = some (.int .u64 (tmW en)) ∧ w'.cell? ⟨B, 12, none⟩ = some (.int .i64 (tmE en)) ∧ w'.cell? ⟨B, 13, none⟩ = some (.pointer none) ∧ w'.cell? ⟨b12, 0, none⟩ = some (.int .i64 k) ∧ w'.cell? ⟨b12, 1, none⟩ = some (.float .f64 s))
    ((refine unhide HS _ ?_; go_split_ands; first | assumption | exact Below.drew (by assumption)))
    (first
      | (go_at_call 6; refine (at_agg _ _ (by assumption) (by assumption)).mono ?_; rintro e w' ⟨rfl, hb⟩; go_split_ands; have hb' : Below w6.heap.size w6 w' := below_next (by assumption) hb; clear hb)
      | (go_at_call 14; refine (ceq_same _ _ _).mono ?_; rintro e w' ⟨rfl, hb⟩; go_split_ands; have hb' : Below w6.heap.size w6 w' := below_next (by assumption) hb; clear hb)
      | (go_at_call 11; refine (nocut_any _).mono ?_; rintro e w' ⟨rfl, hb⟩; go_split_ands; have hb' : Below w6.heap.size w6 w' := below_next (by assumption) hb; clear hb))
  all_goals
    go_wp2_with fail
    go_ret
    refine ⟨by rw [order_zero_zero]; rfl, ?_⟩
    go_split_ands
    exact HB06.out.trans (Below.mono (by assumption) HB06.out.size)

end Go.Proofs.YbulkdjfsDoor
