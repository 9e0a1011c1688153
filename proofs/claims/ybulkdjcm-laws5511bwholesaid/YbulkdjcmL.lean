/-
  THE LAW (func 3).
-/
import Derived.Test.YbulkdjcmP
import Derived.Test.YbulkdjcmQ
import Derived.Test.YbulkdjcmR
import Derived.Test.YbulkdjcmS
import Derived.Test.YbulkdjcmT
import Derived.Test.YbulkdjcmU
import Derived.Test.YbulkdjcmV
namespace Go.Proofs.Ybulkdjcm
open Go.RowKit Go.ChangeMaps Go.Sort

attribute [local go_sem] run_make

set_option maxHeartbeats 1600000 in
set_option maxRecDepth 100000 in
theorem law_any (n : Int) (nmask emask b off c1 : Nat) (a1 : Option Addr) (E : List Ent) (w : World) (hE : Er w a1 b off E) (hlen : E.length ≤ 4096)
    (_n0 : -9223372036854775808 ≤ n) (_n1 : n ≤ 9223372036854775807) (_hnm : nmask < 256) (_hem : emask < 256) :
    Calls Yba.prog 3 #[.int .i64 n, .slice a1 E.length c1, .int .u8 nmask, .int .u8 emask] w fun e w' => e = .returned (.bool true) ∧ Below w.heap.size w w' := by
  have HE := hide hE
  clear hE
  generalize hL : E.length = L at *
  have hLi : (L : Int) ≤ 4096 := by omega
  go_enter Yba.func3, Yba.ntmps3
  go_upto_block 0 with (fail)
  go_cut [12] (fun _ wr => ∃ O ck, Pb w wr n O ck [] ∧ Pres wr (w.heap.size + 1) O)
  case first =>
    have r0 : Pres ((w.alloc (.map #[] 0)).alloc (.cells #[.bool false, .bool false, .bool false, .bool false, .bool false, .bool false, .bool false, .bool false] 26)) (w.heap.size + 1) [] := by
      intro j hj
      have : j = 0 ∨ j = 1 ∨ j = 2 ∨ j = 3 ∨ j = 4 ∨ j = 5 ∨ j = 6 ∨ j = 7 := by omega
      rcases this with rfl | rfl | rfl | rfl | rfl | rfl | rfl | rfl <;> exact ⟨by simp [keys], by simp⟩
    refine st1 n emask w _ (Pb.start w n _) r0 ?_
    intros
    rename_i wz h
    dsimp only
    go_wp2_with fail
    go_meet
    exact h
  case rest =>
    obtain ⟨O0, ck0, hp0, hr0⟩ := hcut
    have H0 := hide (And.intro hp0 hr0)
    clear hp0 hr0
    go_upto_block 2 with (fail)
    go_cut [58] (fun _ wr => ∃ O ck, Pb w wr n O ck E ∧ Pres wr (w.heap.size + 1) O)
    case first =>
      refine st2 n b off c1 L a1 E w _ HE hL hlen O0 ck0 H0 ?_
      intros
      rename_i wz h
      dsimp only
      go_wp2_with fail
      go_meet
      exact h
    case rest =>
      obtain ⟨O, ck, hp1, hr1⟩ := hcut
      clear H0
      obtain ⟨wB, hwB⟩ : ∃ wB, wB = wc := ⟨_, rfl⟩
      subst hwB
      have H1 := hide (And.intro hp1 hr1)
      clear hp1 hr1
      obtain ⟨i0, hi0, hz0, hz1, hz2⟩ := info_parts Yba.info9p
      go_upto_block 4 with (fail)
      go_cut [17] (fun v wr => Mo wr wB.heap.size v ((List.range 8).filter (ls nmask O)) ∧ Pb w wr n O ck E ∧ Pres wr (w.heap.size + 1) O)
      case first =>
        refine st3 n nmask E w _ O ck H1 ?_
        intros
        rename_i wz h
        dsimp only
        go_wp2_with fail
        go_meet
        exact h
      case rest =>
        obtain ⟨hM, hp2, hr2⟩ := hcut
        obtain ⟨a3, l3, c3, rfl⟩ := hM.form
        obtain ⟨D, hD, h155, h154⟩ := build106 w.heap.size l3 c3 a3
        have hports : ∀ e ∈ E, e.2.1 < 65536 := fun e he => by
          obtain ⟨j, hj, rfl⟩ := List.getElem_of_mem he
          rw [← ea_some (List.getElem?_eq_getElem hj)]
          exact HE.out.ports j hj
        have hagos : ∀ e ∈ E, -32768 ≤ e.2.2 ∧ e.2.2 ≤ 32767 := fun e he => by
          obtain ⟨j, hj, rfl⟩ := List.getElem_of_mem he
          rw [← ea_some (List.getElem?_eq_getElem hj)]
          exact HE.out.agos j hj
        have hsw := sweep_any (m := nmask) hp2 hr2 hM H1.out.1.room (fun e he => lt_of_block (H1.out.1.map e he)) h155 h154 hports hagos
        have HS := hide hsw
        obtain ⟨Z, hZ, hmk⟩ := make109 L hlen
        have HZ := hide hZ
        clear hZ
        clear hM hp2 hr2 h155 h154 hports hagos hsw
        go_upto_block 6 with (first
          | (refine wpList_build_run _ rfl _ _ rfl #[(58, .map (some w.heap.size)), (57, .slice a3 l3 c3)] (by simp [Act.eval]) _ (hD _) ?_)
          | (go_at_call 6; refine HS.out.mono ?_; rintro e w4 ⟨rfl, v4, hF⟩; have HF := hide hF; clear hF)
          | fail)
        have k0 := zero_counts w4 Z E
        have f0 := laid_marks (W := w4.alloc (.cells #[.int .i64 0, .int .i64 0, .int .i64 0, .int .i64 0, .int .i64 0, .int .i64 0, .int .i64 0, .int .i64 0] 108)) HZ.out
        have hs4 : (w4.alloc (.cells #[.int .i64 0, .int .i64 0, .int .i64 0, .int .i64 0, .int .i64 0, .int .i64 0, .int .i64 0, .int .i64 0] 108)).heap.size = w4.heap.size + 1 := by simp
        rw [hs4] at f0
        have l0 : Below w4.heap.size w4 ((w4.alloc (.cells #[.int .i64 0, .int .i64 0, .int .i64 0, .int .i64 0, .int .i64 0, .int .i64 0, .int .i64 0, .int .i64 0] 108)).alloc (.cells Z 4)) := ((Below.refl _ _).alloc (Nat.le_refl _) _).alloc (by simp) _
        generalize (w4.alloc (.cells #[.int .i64 0, .int .i64 0, .int .i64 0, .int .i64 0, .int .i64 0, .int .i64 0, .int .i64 0, .int .i64 0] 108)).alloc (.cells Z 4) = w5 at k0 f0 l0
        have H5 := hide (And.intro l0 (And.intro f0 k0))
        clear k0 f0 l0 hs4 HZ HS hD hmk H1 hi0 hz0 hz1 hz2
        generalize wc.heap.size = bc at *
        go_cut [22] (fun _ wr => Below w4.heap.size w4 wr ∧ FLs wr (w4.heap.size + 1) L (fun i => fin E i) ∧ KPs wr w4.heap.size (fun k => cnt k E L))
        case first =>
          refine st4 n nmask b off c1 L bc a1 E w w4 _ O ck v4 HE hL hlen HF H5 ?_
          intros
          rename_i wz h
          dsimp only
          go_wp2_with fail
          go_meet
          exact h
        case rest =>
          obtain ⟨hb8, hf8, hk8⟩ := hcut
          clear H5
          obtain ⟨w8, hw8⟩ : ∃ w8, w8 = wc := ⟨_, rfl⟩
          subst hw8
          have hF8 := HF.out.kept hb8
          have HF8 := hide hF8
          have H8 := hide (And.intro hb8 (And.intro hf8 hk8))
          have hgc : w4.heap.size < w8.heap.size := World.block_lt_of_cell? _ _ (hk8 0 (by omega)).1
          clear hb8 hf8 hk8 hF8
          generalize w4.heap.size = q4 at *
          go_upto_block 10 with (fail)
          go_cut [24] (fun v wr => v = .int .i64 (((List.range 8).filter (lv O E)).length : Nat) ∧ ∃ d, wr = w8.drewN d)
          case first =>
            refine st5 n nmask L bc q4 E w w4 _ O ck v4 hL hlen HF8 H8 ?_
            intros
            rename_i wz h
            dsimp only
            go_wp2_with fail
            go_meet
            exact h
          case rest =>
            obtain ⟨rfl, d9, hw9⟩ := hcut
            obtain ⟨w9, hw9e⟩ : ∃ w9, w9 = wc := ⟨_, rfl⟩
            subst hw9e
            have hF9 := HF8.out.kept (below_drewN (Below.refl _ w8) d9)
            rw [← hw9] at hF9
            have h9 : Below q4 w4 w9 ∧ FLs w9 (q4 + 1) L (fun i => fin E i) ∧ KPs w9 q4 (fun k => cnt k E L) := by
              rw [hw9]
              exact ⟨below_drewN H8.out.1 d9, H8.out.2.1.drewN d9, H8.out.2.2.drewN d9⟩
            have hptr := hF9.ptr
            have hlen9 := run_len_mine (P := Yba.prog) (ty := 3) Yba.underlying25 hF9.pubs
            rw [left_len hF9.wf hF9.low] at hlen9
            have HF9 := hide hF9
            have H9 := hide h9
            clear hw9 hF9 h9 HF8 H8
            generalize ((List.range 8).filter (lv O E)).length = lft at hlen9
            go_upto_block 12 with (fail)
            clear hlen9
            go_cut [28] (fun _ wr => Below w9.heap.size w9 wr)
            case first =>
              refine st6 n nmask b off c1 L bc q4 a1 E w w4 _ O ck v4 HE hL hlen HF9 H9 ?_
              intros
              rename_i wz h
              dsimp only
              go_wp2_with fail
              go_meet
              exact h
            case rest =>
              have hF9 := HF9.out.kept hcut
              obtain ⟨w10, hw10⟩ : ∃ w10, w10 = wc := ⟨_, rfl⟩
              subst hw10
              have hk9 := H9.out.2.2.ot (Ot.of_below (fun _ => False) hcut) (fun h => h)
              have HFA := hide (And.intro hF9 hk9)
              clear hF9 hk9 hcut HF9 H9
              obtain ⟨i0, hi0, hz0, hz1, hz2⟩ := info_parts Yba.info9p
              go_upto_block 14 with (fail)
              go_cut [32] (fun v wr => Mo wr w10.heap.size v (NF nmask O E) ∧ Below w10.heap.size w10 wr)
              case first =>
                refine st7 n nmask L bc q4 E w _ O ck v4 hL hlen HFA ?_
                intros
                rename_i wz h
                dsimp only
                go_wp2_with fail
                go_meet
                exact h
              case rest =>
                obtain ⟨hMo, hb⟩ := hcut
                have hF := HFA.out.1.kept hb
                have hnm := hF.names
                have hptr := hF.ptr
                have heq := equal_names hF hMo
                have hbw := hF.below
                have HQ := hide (And.intro heq hbw)
                clear hMo hb hF heq hbw
                go_wp2_with (first
                  | (go_at_call 7; refine HQ.out.1.mono ?_; rintro e w' ⟨rfl, hbe⟩)
                  | fail)
                go_ret
                exact ⟨rfl, HQ.out.2.trans (hbe.mono HQ.out.2.size)⟩

end Go.Proofs.Ybulkdjcm
