/-
  sort.pdqsort_func (30) over a 'less' that may lay blocks.
-/
import Derived.Test.YbulkdjggFmtJ
import Derived.Sort.Walk13
import Derived.Sort.AssemblyPlain
namespace Go.Proofs.YbulkdjggFmt
open Go.RowKit Go.Sort

section
variable {blk off size B : Nat} {lt : Pt → Pt → Bool} {l0 l1 : Value} {sf : Nat} {s0 s1 : Value} {Cx : Ctx}

theorem Ss.quietly {w W W' : World} {d : Array Pt} (h : Ss blk off size B l0 l1 sf s0 s1 Cx w w.heap.size W d) (hv : Sv blk off size B Cx W' d) (ho : Ot (fun _ => False) W W') : Ss blk off size B l0 l1 sf s0 s1 Cx w w.heap.size W' d :=
  ⟨hv, h.dt.ot ho (fun k => k), h.ot.step ho (fun _ k _ => k.elim)⟩

set_option maxHeartbeats 12800000 in
set_option maxRecDepth 1000000 in
theorem pdq_any (hO : SWO lt) (hS : Srt blk off size B lt l0 l1 sf s0 s1 Cx) : ∀ (N a b limit : Nat) (d : Array Pt) (w : World), b - a < N → Sv blk off size B Cx w d → a ≤ b → b ≤ size → limit < 4611686018427387904 → Sort.Below lt a b d →
    Calls Ybaf.prog 30 #[.agg #[.func (.func 22) #[] #[l0, l1], .func (.func sf) #[] #[s0, s1]], .int .i64 a, .int .i64 b, .int .i64 limit] w fun e w' =>
      e = .returned (.tuple #[]) ∧ Sv blk off size B Cx w' (pdq lt d a b limit true true) ∧ Ot (fun k => k = blk) w w' := by
  intro N
  induction N with
  | zero => intro _ _ _ _ _ h; exact absurd h (Nat.not_lt_zero _)
  | succ N ih =>
    intro a b limit d w hN hv hab hb hlimit hBel0
    have v1 := Ss.new hS hv
    have hbB := hv.big
    have hlow := hS.low
    have hsm := hS.small
    have hne : w.heap.size ≠ blk := by omega
    have hds0 := hv.len
    have HS := hide hS
    have IH := hide ih
    clear hv ih hS
    go_enter Ybaf.func30, Ybaf.ntmps30
    go_wp2_with fail
    go_loopg [1, 2, 3, 8, 9] (b - a) (fun kx s1' s2 s3 s8 s9 wr => ∃ (a' b' lim : Nat) (wb wp : Bool) (dk : Array Pt), s1' = .int .i64 a' ∧ s2 = .int .i64 b' ∧ s3 = .int .i64 lim ∧ s8 = .bool wb ∧ s9 = .bool wp ∧
      a' ≤ b' ∧ b' ≤ size ∧ b' - a' ≤ kx ∧ kx ≤ b - a ∧ lim ≤ limit ∧ Sort.Below lt a' b' dk ∧ Ss blk off size B l0 l1 sf s0 s1 Cx w w.heap.size wr dk ∧ pdq lt dk a' b' lim wb wp = pdq lt d a b limit true true)
    case atStart => exact ⟨a, b, limit, true, true, d, rfl, rfl, rfl, rfl, rfl, hab, hb, Nat.le_refl _, Nat.le_refl _, Nat.le_refl _, hBel0, v1, rfl⟩
    case round =>
      clear v1
      obtain ⟨a', b', lim, wb, wp, dk, rfl, rfl, rfl, rfl, rfl, hab', hb', hkx, hkN, hlim, hBel, hAt, heq⟩ := hrel
      have hds := hAt.sv.len
      have x0 := hAt.dt.c0
      have x1 := hAt.dt.c1
      have A := hide heq
      clear heq
      by_cases h12 : b' - a' ≤ 12
      · have h12z : (b' : Int) - (a' : Int) ≤ 12 := by omega
        go_wp2_with (go_at_call 44; refine (ins_any HS.out a' b' dk _ hAt.sv hab' hb').mono ?_; rintro e w1 ⟨rfl, hw1, ho1⟩)
        (try simp only [Exit.inBlock, Exit.then]); refine bodyPost_ret (results_none rfl _ _ _) rfl ?_
        refine ⟨rfl, ?_⟩
        rw [← A.out, pdq_small h12]
        exact ⟨hw1, hAt.ot.trans ho1⟩
      · have h12z : ¬ ((b' : Int) - (a' : Int) ≤ 12) := by omega
        by_cases hl0 : lim = 0
        · subst hl0
          go_wp2_with (go_at_call 45; refine (heap_any HS.out a' b' dk _ hAt.sv (by omega) hb').mono ?_; rintro e w1 ⟨rfl, hw1, ho1⟩)
          (try simp only [Exit.inBlock, Exit.then]); refine bodyPost_ret (results_none rfl _ _ _) rfl ?_
          refine ⟨rfl, ?_⟩
          rw [← A.out, pdq_heap h12 rfl]
          exact ⟨hw1, hAt.ot.trans ho1⟩
        · have hl0z : ¬ ((lim : Int) = 0) := by omega
          obtain ⟨s1', B1, hc1, s2, B2, hpv, s3, B3⟩ := rd_facts (lt := lt) (limit := lim) (wb := wb) (wp := wp) hO partialInsertionSort_holds reverseRange_holds (show a' < b' by omega) (show b' ≤ dk.size by omega) hBel
          go_upto_if 35 with fail
          go_cut [3] from 19 to 129 (fun s3 wc => s3 = .int .i64 (rd lt dk a' b' lim wb wp).lim ∧ Ss blk off size B l0 l1 sf s0 s1 Cx w w.heap.size wc (rd lt dk a' b' lim wb wp).d1)
          case first =>
            cases wb
            · go_wp2_with (go_at_call 46; refine (break_any HS.out a' b' dk _ hAt.sv (by omega) hb').mono ?_; rintro e w1 ⟨rfl, hw1, ho1⟩)
              go_meet
              case rel =>
                refine ⟨?_, hAt.callee hw1 ho1 hne⟩
                show Value.int .i64 ((lim : Int) - 1) = Value.int .i64 ((lim - 1 : Nat) : Int)
                congr 1
                omega
            · go_wp2_with fail
              go_meet
              case rel => exact ⟨rfl, hAt⟩
          case rest =>
            obtain ⟨rfl, hAt1⟩ := hcut
            clear x0 x1 hAt
            have y0 := hAt1.dt.c0
            have y1 := hAt1.dt.c1
            have hc17 : Calls Ybaf.prog 47 #[.agg #[.func (.func 22) #[] #[l0, l1], .func (.func sf) #[] #[s0, s1]], .int .i64 a', .int .i64 b'] wc fun e w' => e = .returned (.tuple #[.int .i64 (rd lt dk a' b' lim wb wp).c.1, .int .i64 (hintCode (rd lt dk a' b' lim wb wp).c.2)]) ∧ Ss blk off size B l0 l1 sf s0 s1 Cx w w.heap.size w' (rd lt dk a' b' lim wb wp).d1 :=
              (pivot_any HS.out a' b' _ _ hAt1.sv (by omega) hb').mono fun e w' ⟨h1, h2, h3⟩ => ⟨h1, hAt1.quietly h2 h3⟩
            go_upto_if 50 with (go_at_call 47; refine hc17.mono ?_; rintro e w2 ⟨rfl, hAt2⟩)
            clear y0 y1 hAt1
            have z0 := hAt2.dt.c0
            have z1 := hAt2.dt.c1
            go_cut [11, 12] from 19 to 129 (fun s11 s12 wc => s11 = .int .i64 (rd lt dk a' b' lim wb wp).pivot ∧ s12 = .int .i64 (hintCode (rd lt dk a' b' lim wb wp).hint) ∧ Ss blk off size B l0 l1 sf s0 s1 Cx w w.heap.size wc (rd lt dk a' b' lim wb wp).d2)
            case first =>
              by_cases hh : (rd lt dk a' b' lim wb wp).c.2 = .decreasing
              · have hcode : hintCode (rd lt dk a' b' lim wb wp).c.2 = 2 := by rw [hh]; rfl
                obtain ⟨e2, epv, eht⟩ := rd_dec hh
                go_wp2_with (go_at_call 48; refine (rev_any HS.out a' b' _ _ hAt2.sv (by omega) hb').mono ?_; rintro e w3 ⟨rfl, hw3, ho3⟩)
                go_meet
                case rel =>
                  refine ⟨?_, by rw [eht]; rfl, by rw [e2]; exact hAt2.callee hw3 ho3 hne⟩
                  rw [epv]
                  congr 1
                  omega
              · have hcode : ¬ (hintCode (rd lt dk a' b' lim wb wp).c.2 = 2) := fun h => hh (hintCode_two h)
                obtain ⟨e2, epv, eht⟩ := rd_not hh
                go_wp2_with fail
                go_meet
                case rel => exact ⟨by rw [epv], by rw [eht], by rw [e2]; exact hAt2⟩
            case rest =>
              obtain ⟨rfl, rfl, hAt3⟩ := hcut
              clear z0 z1 hAt2
              have v0 := hAt3.dt.c0
              have v1 := hAt3.dt.c1
              go_upto_region 16 with fail
              go_cut [12, 68] from 19 to 129 (fun s12 s68 wx => s12 = .int .i64 (hintCode (rd lt dk a' b' lim wb wp).hint) ∧ s68 = .bool (wb && wp && decide ((rd lt dk a' b' lim wb wp).hint = .increasing)) ∧ wx = wc)
              case first =>
                cases wb <;> cases wp <;> cases hh3 : (rd lt dk a' b' lim _ _).hint <;>
                  (have hcode3 := congrArg hintCode hh3
                   simp only [hintCode] at hcode3
                   go_wp2_with fail
                   go_meet
                   exact ⟨by simp [hh3, hintCode], by simp [hh3, hintCode], rfl⟩)
              case rest =>
                obtain ⟨rfl, rfl, rfl⟩ := hcut
                go_upto_if 68 with fail
                go_cut [] from 19 to 129 (fun wx => (rd lt dk a' b' lim wb wp).pi.2 = false ∧ Ss blk off size B l0 l1 sf s0 s1 Cx w w.heap.size wx (rd lt dk a' b' lim wb wp).pi.1)
                case first =>
                  cases h68 : (wb && wp && decide ((rd lt dk a' b' lim wb wp).hint = .increasing))
                  · have epi := rd_pi_no h68
                    go_wp2_with fail
                    go_meet
                    case rel => exact ⟨by rw [epi], by rw [epi]; exact hAt3⟩
                  · have epi := rd_pi_yes h68
                    have hc19 := (partial_any HS.out a' b' (rd lt dk a' b' lim wb wp).d2 _ hAt3.sv (by omega) hb')
                    rw [← epi] at hc19
                    go_wp2_with (go_at_call 49; refine hc19.mono ?_; rintro e w4 ⟨rfl, hw4, ho4⟩)
                    all_goals first
                      | (have hp2 : (rd lt dk a' b' lim wb wp).pi.2 = false := by rw [epi]; assumption
                         go_meet
                         exact ⟨hp2, hAt3.callee hw4 ho4 hne⟩)
                      | (have hp2 : (rd lt dk a' b' lim wb wp).pi.2 = true := by rw [epi]; assumption
                         (try simp only [Exit.inBlock, Exit.then]); refine bodyPost_ret (results_none rfl _ _ _) rfl ?_
                         refine ⟨rfl, ?_⟩
                         rw [← A.out, pdq_done h12 hl0 hp2]
                         exact ⟨hw4, hAt3.ot.trans ho4⟩)
                case rest =>
                  obtain ⟨hp2, hAt5⟩ := hcut
                  clear v0 v1 hAt3
                  have t0 := hAt5.dt.c0
                  have t1 := hAt5.dt.c1
                  go_upto_region 18 with fail
                  go_cut [83] from 19 to 129 (fun s83 wx => s83 = .bool (decide (a' > 0) && !lt (rd lt dk a' b' lim wb wp).pi.1[a' - 1]! (rd lt dk a' b' lim wb wp).pi.1[(rd lt dk a' b' lim wb wp).pivot]!) ∧ Ss blk off size B l0 l1 sf s0 s1 Cx w w.heap.size wx (rd lt dk a' b' lim wb wp).pi.1)
                  case first =>
                    rcases Nat.eq_zero_or_pos a' with ha0 | ha0
                    · have ha0z : decide ((a' : Int) > 0) = false := decide_eq_false (by omega)
                      go_wp2_with fail
                      go_meet
                      case rel => exact ⟨by simp [ha0], hAt5⟩
                    · have ha0z : (a' : Int) > 0 := by omega
                      have hl := hAt5.less HS.out ((a' - 1 : Nat) : Int) ((rd lt dk a' b' lim wb wp).pivot : Nat) (by omega) (by omega) (by omega) (by omega)
                      simp only [Int.toNat_natCast] at hl
                      rw [show ((a' - 1 : Nat) : Int) = (a' : Int) - 1 by omega] at hl
                      cases hlv : lt (rd lt dk a' b' lim wb wp).pi.1[a' - 1]! (rd lt dk a' b' lim wb wp).pi.1[(rd lt dk a' b' lim wb wp).pivot]! <;>
                        (rw [hlv] at hl
                         go_wp2_with (go_at_call 22; refine hl.mono ?_; rintro e w' ⟨rfl, hAt6⟩)
                         go_meet
                         exact ⟨by simp [ha0, hlv], hAt6⟩)
                  case rest =>
                    obtain ⟨rfl, hAt6⟩ := hcut
                    clear t0 t1 hAt5
                    have q0 := hAt6.dt.c0
                    have q1 := hAt6.dt.c1
                    cases h87 : (decide (a' > 0) && !lt (rd lt dk a' b' lim wb wp).pi.1[a' - 1]! (rd lt dk a' b' lim wb wp).pi.1[(rd lt dk a' b' lim wb wp).pivot]!)
                    · obtain ⟨mid, ap, d4, hx⟩ : ∃ mid ap d4, partition lt (rd lt dk a' b' lim wb wp).pi.1 a' b' (rd lt dk a' b' lim wb wp).pivot = (mid, ap, d4) := ⟨(partition lt (rd lt dk a' b' lim wb wp).pi.1 a' b' (rd lt dk a' b' lim wb wp).pivot).1, (partition lt (rd lt dk a' b' lim wb wp).pi.1 a' b' (rd lt dk a' b' lim wb wp).pivot).2.1, (partition lt (rd lt dk a' b' lim wb wp).pi.1 a' b' (rd lt dk a' b' lim wb wp).pivot).2.2, rfl⟩
                      obtain ⟨r1, r2, r3, r4, r5, r6, r7⟩ := round_part hO (partition_holds lt) hpv.1 hpv.2 (show b' ≤ (rd lt dk a' b' lim wb wp).pi.1.size by omega) B3 hx
                      have hc22 := part_any HS.out a' b' (rd lt dk a' b' lim wb wp).pivot (rd lt dk a' b' lim wb wp).pi.1 _ hAt6.sv (by omega) hb' (by omega)
                      rw [hx] at hc22
                      have X := hide hx
                      clear hx
                      go_upto_if 109 with (go_at_call 51; refine hc22.mono ?_; rintro e w7 ⟨rfl, hw7, ho7⟩)
                      have hx := X.out
                      have hs4 : d4.size = size := r3.trans (s3.trans hds)
                      have hAt7 := hAt6.callee hw7 ho7 hne
                      clear q0 q1 hAt6 hw7 ho7
                      have p0 := hAt7.dt.c0
                      have p1 := hAt7.dt.c1
                      by_cases h4 : mid - a' < b' - mid
                      · have h4z : (mid : Int) - (a' : Int) < (b' : Int) - (mid : Int) := by omega
                        have hih := IH.out a' mid (rd lt dk a' b' lim wb wp).lim d4 _ (by omega) hAt7.sv (by omega) (by omega) (Nat.lt_of_le_of_lt (Nat.le_trans rd_lim_le hlim) hlimit) r4
                        obtain ⟨pL, sL⟩ := pdq_sorts lt hO d4 a' mid (rd lt dk a' b' lim wb wp).lim true true (by omega) (by omega) r4
                        go_wp2_with (go_at_call 30; refine hih.mono ?_; rintro e w8 ⟨rfl, hw8, ho8⟩)
                        go_roundg (b' - (mid + 1))
                        case measure => omega
                        case rel =>
                          refine ⟨mid + 1, b', (rd lt dk a' b' lim wb wp).lim, decide (mid - a' ≥ (b' - a') / 8), ap, pdq lt d4 a' mid (rd lt dk a' b' lim wb wp).lim true true, by simp, rfl, rfl, ?_, rfl, by omega, by omega, Nat.le_refl _, by omega, Nat.le_trans rd_lim_le hlim, (r6 _ pL sL).1, hAt7.callee hw8 ho8 hne, ?_⟩
                          · exact congrArg Value.bool (eighth (by omega) (by omega))
                          · rw [← A.out, pdq_left h12 hl0 hp2 h87 (by rw [hx]; exact ⟨r1, r2⟩) (by rw [hx]; exact h4), hx]
                      · have h4z : ¬ ((mid : Int) - (a' : Int) < (b' : Int) - (mid : Int)) := by omega
                        have hih := IH.out (mid + 1) b' (rd lt dk a' b' lim wb wp).lim d4 _ (by omega) hAt7.sv (by omega) (by omega) (Nat.lt_of_le_of_lt (Nat.le_trans rd_lim_le hlim) hlimit) r5
                        rw [show ((mid + 1 : Nat) : Int) = (mid : Int) + 1 by omega] at hih
                        obtain ⟨pL, sL⟩ := pdq_sorts lt hO d4 (mid + 1) b' (rd lt dk a' b' lim wb wp).lim true true (by omega) (by omega) r5
                        go_wp2_with (go_at_call 30; refine hih.mono ?_; rintro e w8 ⟨rfl, hw8, ho8⟩)
                        go_roundg (mid - a')
                        case measure => omega
                        case rel =>
                          refine ⟨a', mid, (rd lt dk a' b' lim wb wp).lim, decide (b' - mid ≥ (b' - a') / 8), ap, pdq lt d4 (mid + 1) b' (rd lt dk a' b' lim wb wp).lim true true, rfl, rfl, rfl, ?_, rfl, by omega, by omega, Nat.le_refl _, by omega, Nat.le_trans rd_lim_le hlim, (r7 _ pL sL).1, hAt7.callee hw8 ho8 hne, ?_⟩
                          · exact congrArg Value.bool (eighth (by omega) (by omega))
                          · rw [← A.out, pdq_right h12 hl0 hp2 h87 (by rw [hx]; exact ⟨r1, r2⟩) (by rw [hx]; exact h4), hx]
                    · have h87' := h87
                      simp only [Bool.and_eq_true, decide_eq_true_eq, Bool.not_eq_true'] at h87'
                      obtain ⟨mid, d4, hx⟩ : ∃ mid d4, partitionEqual lt (rd lt dk a' b' lim wb wp).pi.1 a' b' (rd lt dk a' b' lim wb wp).pivot = (mid, d4) := ⟨(partitionEqual lt (rd lt dk a' b' lim wb wp).pi.1 a' b' (rd lt dk a' b' lim wb wp).pivot).1, (partitionEqual lt (rd lt dk a' b' lim wb wp).pi.1 a' b' (rd lt dk a' b' lim wb wp).pivot).2, rfl⟩
                      obtain ⟨r1, r2, r3, r4, _⟩ := round_eq hO (partitionEqual_holds lt) h87'.1 hpv.1 hpv.2 (show b' ≤ (rd lt dk a' b' lim wb wp).pi.1.size by omega) B3 h87'.2 hx
                      have hc21 := parteq_any HS.out a' b' (rd lt dk a' b' lim wb wp).pivot (rd lt dk a' b' lim wb wp).pi.1 _ hAt6.sv (by omega) hb' (by omega)
                      rw [hx] at hc21
                      have X := hide hx
                      clear hx
                      go_wp2_with (go_at_call 50; refine hc21.mono ?_; rintro e w7 ⟨rfl, hw7, ho7⟩)
                      go_roundg (b' - mid)
                      case measure => omega
                      case rel =>
                        have hx := X.out
                        exact ⟨mid, b', (rd lt dk a' b' lim wb wp).lim, wb, wp, d4, rfl, rfl, rfl, rfl, rfl, r2, hb', Nat.le_refl _, by omega, Nat.le_trans rd_lim_le hlim, r4, hAt6.callee hw7 ho7 hne, by rw [← A.out, pdq_eq h12 hl0 hp2 h87 (by rw [hx]; exact ⟨r1, r2⟩), hx]⟩
end

end Go.Proofs.YbulkdjggFmt
