/-
  zzs5518bmodel (6).
-/
import Derived.Test.YbulkdjggFmtR
import Derived.Test.YbulkdjggFmtPlain
import Derived.Deep.CutBlock
import Derived.Deep.DeepCutAuto
namespace Go.Proofs.YbulkdjggFmt
open Go.RowKit Go.Sort

/-- What the model reads: the points, the nodes' names, the keys' positions. -/
structure Min (pb nb n hb : Nat) (pts : Array Pt) (hs : List Nat) (W : World) : Prop where
  row : HoldsK enc 2 W pb 0 pts
  ns : ∀ i, i < n → W.cell? ⟨nb, i, none⟩ = some (.string (nm i))
  hs : ∀ j, j < hs.length → W.cell? ⟨hb, j, none⟩ = some (.int .u64 (hs.getD j 0))

theorem Min.pt {pb nb n hb : Nat} {pts : Array Pt} {hs : List Nat} {w W : World} (h : Min pb nb n hb pts hs w) (hb' : Below w.heap.size w W) {t : Nat} (ht : t < pts.size) :
    W.cell? ⟨pb, t * 2, none⟩ = some (.int .u64 pts[t]!.1) ∧ W.cell? ⟨pb, t * 2 + 1, none⟩ = some (.int .i64 pts[t]!.2) := by
  have := row_at h.row ht
  rw [Nat.zero_add] at this
  exact ⟨(hb'.cell (World.block_lt_of_cell? _ _ this.1)).trans this.1, (hb'.cell (World.block_lt_of_cell? _ _ this.2)).trans this.2⟩
theorem Min.nm {pb nb n hb : Nat} {pts : Array Pt} {hs : List Nat} {w W : World} (h : Min pb nb n hb pts hs w) (hb' : Below w.heap.size w W) {t : Nat} (ht : t < n) : W.cell? ⟨nb, t, none⟩ = some (.string (nm t)) :=
  (hb'.cell (World.block_lt_of_cell? _ _ (h.ns t ht))).trans (h.ns t ht)
theorem Min.key {pb nb n hb : Nat} {pts : Array Pt} {hs : List Nat} {w W : World} (h : Min pb nb n hb pts hs w) (hb' : Below w.heap.size w W) {t : Nat} (ht : t < hs.length) : W.cell? ⟨hb, t, none⟩ = some (.int .u64 (hs.getD t 0)) :=
  (hb'.cell (World.block_lt_of_cell? _ _ (h.hs t ht))).trans (h.hs t ht)
theorem Own.below {W W' : World} {v : Value} {xs : List Nat} {B : Nat} (h : Own W B v xs) (hb : Below W.heap.size W W') : Own W' B v xs := h.ot (Ot.of_below (fun _ => False) hb) (fun _ _ h => h)

set_option maxHeartbeats 40000000 in
set_option maxRecDepth 100000 in
theorem model_at (pb cp nb n cn hb ch : Nat) (pts : Array Pt) (hs : List Nat) (u : ByteArray) (isU : Nat → Bool) (w : World) (hm : Min pb nb n hb pts hs w)
    (hU : ∀ i, i < n → ((nm i).toList == u.toList) = isU i) (hp : pts.size ≤ 100000) (hl : hs.length ≤ 100000) (hq : ∀ t, t < pts.size → pts[t]!.2 < n) :
    Calls Ybaf.prog 6 #[.slice (some ⟨pb, 0, none⟩) pts.size cp, .slice (some ⟨nb, 0, none⟩) n cn, .string u, .slice (some ⟨hb, 0, none⟩) hs.length ch] w fun e w' =>
      ∃ v ys, e = .returned v ∧ Own w' w.heap.size v ys ∧ Asc ys ∧ ys.Perm (stps (skipP isU pts) (offM pts hs) (arc pts) (lastP pts) pts.size 0 ([], false)).1 ∧ Below w.heap.size w w' := by
  obtain ⟨ST, hST⟩ : ∃ s, s = stps (skipP isU pts) (offM pts hs) (arc pts) (lastP pts) pts.size 0 ([], false) := ⟨_, rfl⟩
  rw [← hST]
  have HM := hide hm
  have HU := hide hU
  have HQ := hide hq
  obtain ⟨N, hN⟩ : ∃ N, N = pts.size := ⟨_, rfl⟩
  obtain ⟨H, hH⟩ : ∃ H, H = hs.length := ⟨_, rfl⟩
  rw [← hN] at hp hST ⊢
  rw [← hH] at hl ⊢
  have HST := hide hST
  have HN := hide hN
  have HH := hide hH
  clear hm hU hq hST hN hH
  go_enter Ybaf.func6, Ybaf.ntmps6
  go_wp2_with fail
  go_loopg [10, 11, 12] N (fun kx v10 v11 v12 wr => ∃ (i : Nat) (ys os : List Nat) (r : Bool), v11 = .bool r ∧ v12 = .int .i64 i ∧ i ≤ N ∧ N - i ≤ kx ∧ Own wr w.heap.size v10 ys ∧ Asc ys ∧ ys.Perm os ∧ ys.length ≤ i ∧
    Hid (stps (skipP isU pts) (offM pts hs) (arc pts) (lastP pts) (N - i) i (os, r) = ST) ∧ Below w.heap.size w wr)
  case atStart => exact ⟨0, [], [], false, rfl, rfl, Nat.zero_le _, Nat.le_refl _, Own.nil w _, List.Pairwise.nil, List.Perm.refl _, Nat.le_refl _, hide HST.out.symm, Below.refl _ _⟩
  case round =>
    obtain ⟨i, ys, os, r, rfl, rfl, hiN, hik, hO, hA, hP, hyl, HE, hB⟩ := hrel
    by_cases hlt : i < N
    · have hlti : (i : Int) < N := by omega
      have hpt := HM.out.pt hB (t := i) (by rw [← HN.out]; exact hlt)
      obtain ⟨x, hx⟩ : ∃ x, x = pts[i]!.1 := ⟨_, rfl⟩
      obtain ⟨y, hy⟩ : ∃ y, y = pts[i]!.2 := ⟨_, rfl⟩
      rw [← hx, ← hy] at hpt
      obtain ⟨hp1, hp2⟩ := hpt
      have HX := hide hx
      have HY := hide hy
      have hyn : y < n := by rw [hy]; exact HQ.out i (by rw [← HN.out]; exact hlt)
      clear hx hy
      have HO := hide (And.intro hO (And.intro hA (And.intro hP hB)))
      clear hO hA hP hB
      go_upto_region 7 with (fail)
      go_cut [13] from 25 to 144 (fun v13 wc => ∃ b, v13 = .pointer (some ⟨b, 0, none⟩) ∧ wc.cell? ⟨b, 0, none⟩ = some (.int .u64 x) ∧ wc.cell? ⟨b, 1, none⟩ = some (.int .i64 y) ∧ Below wr.heap.size wr wc)
      case first =>
        go_wp2_with fail
        go_meet
        case rel => exact ⟨_, rfl, by simp, by simp, below_alloc _ _⟩
      case rest =>
        obtain ⟨b, rfl, hb0, hb1, hbl⟩ := hcut
        have HO2 : Hid (Own wc w.heap.size u10 ys ∧ Below w.heap.size w wc ∧ Asc ys ∧ ys.Perm os) := hide (by
          obtain ⟨k1, k2, k3, k4⟩ := HO.out
          exact ⟨k1.below hbl, below_next k4 hbl, k2, k3⟩)
        have hn1 : wc.cell? ⟨nb, y, none⟩ = some (.string (nm y)) := HM.out.nm HO2.out.2.1 hyn
        have hyni : (y : Int) < n := by omega
        have HIJ : Hid (∀ t, t < N → wc.cell? ⟨pb, t * 2, none⟩ = some (.int .u64 pts[t]!.1)) := hide (fun t ht => (HM.out.pt HO2.out.2.1 (t := t) (by rw [← HN.out]; exact ht)).1)
        have hu := HU.out y hyn
        clear hp1 hp2 hbl HO
        cases hub : isU y with
        | false =>
          rw [hub] at hu
          have HUB := hide hub
          clear hub
          go_wp2_with fail
          go_roundg (N - (i + 1))
          case measure => omega
          case rel =>
            obtain ⟨k1, k2, k3, k4⟩ := HO2.out
            refine ⟨i + 1, ys, os, r, rfl, by go_num, by omega, Nat.le_refl _, k1, k3, k4, by omega, ?_, k2⟩
            refine hide ?_
            rw [← HE.out, stps_skip hlt]
            simp [skipP, ← HY.out, HUB.out]
        | true =>
          rw [hub] at hu
          have HUB := hide hub
          clear hub
          obtain ⟨st, hst⟩ : ∃ s, s = arc pts i := ⟨_, rfl⟩
          have HS := hide hst
          clear hst
          go_upto_if 42 with (fail)
          go_cut [14] from 25 to 144 (fun v14 wd => v14 = .int .u64 st ∧ wd = wc)
          case first =>
            by_cases h0 : i = 0
            · have h0i : (i : Int) = 0 := by omega
              have hs1 : ((N : Int) - 1) = ((N - 1 : Nat) : Int) := by omega
              have hs2 : ((N - 1 : Nat) : Int) < N := by omega
              have hc := HIJ.out (N - 1) (by omega)
              rw [show pts[N - 1]!.1 = st by rw [HS.out, arc, if_pos h0, HN.out]] at hc
              generalize N - 1 = m at *
              go_wp2_with fail
              go_meet
              case rel => exact ⟨rfl, rfl⟩
            · have h0i : ¬ (i : Int) = 0 := by omega
              have hs1 : ((i : Int) - 1) = ((i - 1 : Nat) : Int) := by omega
              have hs2 : ((i - 1 : Nat) : Int) < N := by omega
              have hc := HIJ.out (i - 1) (by omega)
              rw [show pts[i - 1]!.1 = st by rw [HS.out, arc, if_neg h0]] at hc
              generalize i - 1 = m at *
              go_wp2_with fail
              go_meet
              case rel => exact ⟨rfl, rfl⟩
          case rest =>
            obtain ⟨rfl, rfl⟩ := hcut
            clear hu hn1 hyni
            go_upto_region 13 with (fail)
            go_cut [62] from 25 to 144 (fun v wd => v = .bool (decide (1 < N) && decide (st = x)) ∧ wd = wc)
            case first =>
              by_cases h1 : 1 < N
              · have h1i : (1 : Int) < N := by omega
                by_cases h2 : st = x
                · have h2i : (st : Int) = x := by omega
                  go_wp2_with fail
                  go_meet
                  case rel => exact ⟨by simp [h1, h2], rfl⟩
                · have h2i : ¬ (st : Int) = x := by omega
                  go_wp2_with fail
                  go_meet
                  case rel => exact ⟨by simp [h1, h2, h2i], rfl⟩
              · have h1i : ¬ (1 : Int) < N := by omega
                go_wp2_with fail
                go_meet
                case rel => exact ⟨by simp [h1], rfl⟩
            case rest =>
              obtain ⟨rfl, rfl⟩ := hcut
              cases hsk : (decide (1 < N) && decide (st = x)) with
              | true =>
                have HSK := hide hsk
                clear hsk
                go_wp2_with fail
                go_roundg (N - (i + 1))
                case measure => omega
                case rel =>
                  obtain ⟨k1, k2, k3, k4⟩ := HO2.out
                  refine ⟨i + 1, ys, os, r, rfl, by go_num, by omega, Nat.le_refl _, k1, k3, k4, by omega, ?_, k2⟩
                  refine hide ?_
                  rw [← HE.out, stps_skip hlt]
                  have h := HSK.out
                  rw [HS.out, HX.out, HN.out] at h
                  simp only [skipP, h, Bool.or_true]
              | false =>
                have hNS : skipP isU pts i = false := by
                  have h := hsk
                  rw [HS.out, HX.out, HN.out] at h
                  simp only [skipP, h, ← HY.out, HUB.out, Bool.or_false, Bool.not_true]
                have HNS := hide hNS
                clear hsk hNS
                obtain ⟨L, hL⟩ : ∃ L, L = lastP pts i := ⟨_, rfl⟩
                have e1 := sub64_int x st
                have e2 : IntKind.u64.wrap ((sub64 x st : Nat) - 1) = (sub64 (sub64 x st) 1 : Nat) := sub64_int (sub64 x st) 1
                have e3 : sub64 (sub64 x st) 1 = L := by rw [hL, lastP, HX.out, HS.out]
                rw [e3] at e2
                have hL64 : L < 18446744073709551616 := by rw [← e3]; exact sub64_lt _ _
                generalize sub64 x st = d1 at e1 e2
                have HL := hide hL
                obtain ⟨l, hl'⟩ : ∃ l, l = offM pts hs i := ⟨_, rfl⟩
                have HLL := hide hl'
                clear e3 hL hl'
                rename World => wz
                go_upto_block 2 with (fail)
                go_cut [16] from 25 to 144 (fun v16 wd => Own wd wz.heap.size v16 l ∧ Below wz.heap.size wz wd)
                case first =>
                  go_wp2_with fail
                  go_loopg [16, 17] H (fun kx v16 v17 wq => ∃ (j : Nat) (ins : List Nat), v17 = .int .i64 j ∧ j ≤ H ∧ H - j ≤ kx ∧ Own wq wz.heap.size v16 ins ∧ Asc ins ∧ ins.length ≤ j ∧
                    Hid (ins.Perm (((hs.take j).map fun h => sub64 (sub64 h st) 1).filter fun d => decide (d ≤ L))) ∧ Below wz.heap.size wz wq)
                  case atStart => exact ⟨0, [], rfl, Nat.zero_le _, Nat.le_refl _, Own.nil _ _, List.Pairwise.nil, Nat.le_refl _, hide (by simp), Below.refl _ _⟩
                  case round =>
                    obtain ⟨j, ins, rfl, hjH, hjk, hOj, hAj, hlj, HPj, hBj⟩ := hrel
                    by_cases hjl : j < H
                    · have hjli : (j : Int) < H := by omega
                      have hk := HM.out.key (HO2.out.2.1.trans (hBj.mono HO2.out.2.1.size)) (t := j) (by rw [← HH.out]; exact hjl)
                      obtain ⟨h, hh⟩ : ∃ h, h = hs.getD j 0 := ⟨_, rfl⟩
                      rw [← hh] at hk
                      have f1 := sub64_int h st
                      have f2 : IntKind.u64.wrap ((sub64 h st : Nat) - 1) = (sub64 (sub64 h st) 1 : Nat) := sub64_int (sub64 h st) 1
                      obtain ⟨d, hd⟩ : ∃ d, d = sub64 (sub64 h st) 1 := ⟨_, rfl⟩
                      rw [← hd] at f2
                      have HH' := hide hh
                      have HD := hide hd
                      generalize hg : sub64 h st = d2 at f1 f2
                      clear hh hd hg
                      by_cases hdL : d ≤ L
                      · have hdLi : (d : Int) ≤ L := by omega
                        have HDL := hide hdL
                        have HC := hide (ins_at wz.heap.size _ ins d wr hOj hBj.size (by omega) hAj)
                        clear hOj hdL
                        go_wp2_with (go_at_call 12; refine HC.out.mono ?_; rintro e w2 ⟨v', zs, rfl, hO2, hP2, hA2, ho2⟩)
                        go_roundg (H - (j + 1))
                        case measure => omega
                        case rel =>
                          refine ⟨j + 1, zs, by go_num, by omega, Nat.le_refl _, hO2, hA2, ?_, ?_, ?_⟩
                          · rw [hP2.length_eq]; simp; omega
                          · refine hide (filt_yes (by rw [← HH.out]; exact hjl) ?_ ?_ HPj.out)
                            · rw [← HH'.out, ← HD.out]; simpa using HDL.out
                            · rw [← HH'.out, ← HD.out]; exact hP2
                          · exact hBj.trans (ho2.below hBj.size (fun _ h => h))
                      · have hdLi : ¬ (d : Int) ≤ L := by omega
                        have HDL := hide hdL
                        clear hdL
                        go_wp2_with fail
                        go_roundg (H - (j + 1))
                        case measure => omega
                        case rel =>
                          refine ⟨j + 1, ins, by go_num, by omega, Nat.le_refl _, hOj, hAj, by omega, ?_, hBj⟩
                          refine hide (filt_no (by rw [← HH.out]; exact hjl) ?_ HPj.out)
                          rw [← HH'.out, ← HD.out]; simpa using HDL.out
                    · have hjli : ¬ (j : Int) < H := by omega
                      go_wp2_with fail
                      go_meet
                      case rel =>
                        have : j = hs.length := by rw [← HH.out]; omega
                        have hP := HPj.out
                        rw [this, List.take_length] at hP
                        have : ins = l := by
                          rw [HLL.out, offM, ← HS.out, ← HL.out]
                          exact srt_of hAj hP
                        rw [← this]
                        exact ⟨hOj, hBj⟩
                case rest =>
                  obtain ⟨hOl, hBl⟩ := hcut
                  have hll : l.length ≤ 100000 := by
                    have h1 := offM_len pts hs i
                    rw [← HLL.out, ← HH.out] at h1
                    omega
                  have HLT : Hid (∀ t, l.getD t 0 < 18446744073709551616) := hide (fun t => by rw [HLL.out]; exact offM_lt pts hs i t)
                  obtain ⟨ao, cap, rfl, hsh⟩ := hOl.shape
                  have HG : Hid (Hid (stps (skipP isU pts) (offM pts hs) (arc pts) (lastP pts) (N - (i + 1)) (i + 1) (os ++ (pickP st L l (takeP l.length r)).toList, if l.length % 2 = 1 then !r else r) = ST)) := hide (by
                    have h := HE.out
                    rw [stps_go hlt HNS.out, ← HS.out, ← HL.out, ← HLL.out] at h
                    exact hide h)
                  have HO3 : Hid (Own wc w.heap.size u10 ys ∧ Below w.heap.size w wc ∧ Asc ys ∧ ys.Perm os) := hide (by
                    obtain ⟨k1, k2, k3, k4⟩ := HO2.out
                    exact ⟨k1.below hBl, below_next k2 hBl, k3, k4⟩)
                  clear hOl hBl HO2 HE HNS e1 e2 hb0 hb1 HIJ
                  obtain ⟨k, hk⟩ : ∃ k, k = l.length := ⟨_, rfl⟩
                  rw [← hk] at hll hsh HG ⊢
                  have HK := hide hk
                  clear hk
                  obtain ⟨m, hm⟩ : ∃ m, m = takeP k r := ⟨_, rfl⟩
                  obtain ⟨r', hr'⟩ : ∃ r', r' = (if k % 2 = 1 then !r else r) := ⟨_, rfl⟩
                  rw [← hm, ← hr'] at HG
                  have hmk : m ≤ k := by rw [hm]; exact takeP_le k r
                  go_upto_if 93 with (fail)
                  go_cut [11, 20] from 25 to 144 (fun v11 v20 we => v20 = .int .i64 m ∧ v11 = .bool r' ∧ we = wc)
                  case first =>
                    by_cases hk2 : k % 2 = 1
                    · have hk2i : ((k : Int) % 2) = 1 := by omega
                      have HK2 := hide hk2
                      clear hk2
                      have HM2 := hide hm
                      have HR2 := hide hr'
                      clear hm hr'
                      cases r
                      · go_wp2_with fail
                        go_meet
                        case rel =>
                          refine ⟨?_, ?_, rfl⟩
                          · rw [HM2.out, takeP, if_neg (by simp)]; go_num
                          · rw [HR2.out, if_pos HK2.out]; rfl
                      · go_wp2_with fail
                        go_meet
                        case rel =>
                          refine ⟨?_, ?_, rfl⟩
                          · rw [HM2.out, takeP, if_pos ⟨HK2.out, rfl⟩]; go_num
                          · rw [HR2.out, if_pos HK2.out]; rfl
                    · have hk2i : ¬ ((k : Int) % 2) = 1 := by omega
                      have HK2 := hide hk2
                      clear hk2
                      have HM2 := hide hm
                      have HR2 := hide hr'
                      clear hm hr'
                      go_wp2_with fail
                      go_meet
                      case rel =>
                        refine ⟨?_, ?_, rfl⟩
                        · rw [HM2.out, takeP, if_neg (fun h => HK2.out h.1)]; go_num
                        · rw [HR2.out, if_neg HK2.out]
                  case rest =>
                    obtain ⟨rfl, rfl, rfl⟩ := hcut
                    clear hm hr'
                    by_cases hL0 : L = 0
                    · have hL0i : (L : Int) = 0 := by omega
                      go_wp2_with fail
                      go_roundg (N - (i + 1))
                      case measure => omega
                      case rel =>
                        obtain ⟨k1, k2, k3, k4⟩ := HO3.out
                        refine ⟨i + 1, ys, os, r', rfl, by go_num, by omega, Nat.le_refl _, k1, k3, k4, by omega, ?_, k2⟩
                        have h := HG.out.out
                        rw [hL0, pick_last0] at h
                        exact hide (by simpa using h)
                    · have hL0i : ¬ (L : Int) = 0 := by omega
                      obtain ⟨lo, hlo⟩ : ∃ lo, lo = loP l m := ⟨_, rfl⟩
                      have HLO := hide hlo
                      have hlo64 : lo < 18446744073709551616 := by
                        rw [hlo, loP]
                        split
                        · exact HLT.out _
                        · omega
                      clear hlo
                      go_upto_if 103 with (fail)
                      go_cut [21] from 25 to 144 (fun v21 we => v21 = .int .u64 lo ∧ we = wc)
                      case first =>
                        by_cases hm0 : 0 < m
                        · have hm0i : (0 : Int) < m := by omega
                          obtain ⟨g, rfl, hwg, hgl, hcg, hfg⟩ := hsh (by omega)
                          have hc := hcg (m - 1) (by omega)
                          rw [show l.getD (m - 1) 0 = lo by rw [HLO.out, loP, if_pos hm0]] at hc
                          have hs1 : ((m : Int) - 1) = ((m - 1 : Nat) : Int) := by omega
                          have hs2 : ((m - 1 : Nat) : Int) < k := by omega
                          clear hcg hfg hsh
                          generalize m - 1 = m1 at *
                          go_wp2_with fail
                          go_meet
                          case rel => exact ⟨rfl, rfl⟩
                        · have hm0i : ¬ (0 : Int) < m := by omega
                          go_wp2_with fail
                          go_meet
                          case rel =>
                            refine ⟨?_, rfl⟩
                            rw [HLO.out, loP, if_neg hm0]
                            rfl
                      case rest =>
                        obtain ⟨rfl, rfl⟩ := hcut
                        obtain ⟨hi, hhi⟩ : ∃ hi, hi = hiP L l m := ⟨_, rfl⟩
                        have HHI := hide hhi
                        clear hhi
                        have hLm : IntKind.u64.wrap ((L : Int) - 1) = ((L - 1 : Nat) : Int) := by
                          rw [IntKind.wrap_u64]; omega
                        go_upto_if 113 with (fail)
                        go_cut [22] from 25 to 144 (fun v22 we => v22 = .int .u64 hi ∧ (m < k → l.getD m 0 ≠ 0) ∧ we = wc)
                        case first =>
                          by_cases hmk2 : m < k
                          · have hmk2i : (m : Int) < k := by omega
                            obtain ⟨g, rfl, hwg, hgl, hcg, hfg⟩ := hsh (by omega)
                            have hc := hcg m (by omega)
                            obtain ⟨z, hz⟩ : ∃ z, z = l.getD m 0 := ⟨_, rfl⟩
                            have hz64 : z < 18446744073709551616 := by rw [hz]; exact HLT.out _
                            rw [← hz] at hc
                            have HZ := hide hz
                            clear hz hcg hfg hsh
                            by_cases hz0 : z = 0
                            · have hz0i : (z : Int) = 0 := by omega
                              go_wp2_with fail
                              go_roundg (N - (i + 1))
                              case measure => omega
                              case rel =>
                                obtain ⟨k1, k2, k3, k4⟩ := HO3.out
                                refine ⟨i + 1, ys, os, r', rfl, by go_num, by omega, Nat.le_refl _, k1, k3, k4, by omega, ?_, k2⟩
                                have h := HG.out.out
                                rw [pick_zero (by rw [← HK.out]; exact hmk2) (by rw [← HZ.out]; exact hz0)] at h
                                exact hide (by simpa using h)
                            · have hz0i : ¬ (z : Int) = 0 := by omega
                              have hzm : IntKind.u64.wrap ((z : Int) - 1) = ((z - 1 : Nat) : Int) := by
                                rw [IntKind.wrap_u64]; omega
                              have HHI2 : Hid (hi = min (L - 1) (z - 1)) := hide (by rw [HHI.out, hiP, if_pos (by rw [← HK.out]; exact hmk2), ← HZ.out])
                              have HZ2 : Hid (m < k → l.getD m 0 ≠ 0) := hide (fun _ => by rw [← HZ.out]; exact hz0)
                              generalize L - 1 = L1 at *
                              generalize z - 1 = z1 at *
                              by_cases hzl : z1 < L1
                              · have hzli : (z1 : Int) < L1 := by omega
                                go_wp2_with fail
                                go_meet
                                case rel => exact ⟨by rw [HHI2.out, Nat.min_eq_right (by omega)], HZ2.out, rfl⟩
                              · have hzli : ¬ (z1 : Int) < L1 := by omega
                                go_wp2_with fail
                                go_meet
                                case rel => exact ⟨by rw [HHI2.out, Nat.min_eq_left (by omega)], HZ2.out, rfl⟩
                          · have hmk2i : ¬ (m : Int) < k := by omega
                            go_wp2_with fail
                            go_meet
                            case rel => exact ⟨by rw [HHI.out, hiP, if_neg (by rw [← HK.out]; exact hmk2)], fun h => absurd h hmk2, rfl⟩
                        case rest =>
                          obtain ⟨rfl, hnz, rfl⟩ := hcut
                          have hPK : pickP st L l m = if hi < lo then none else some (midP st lo hi) := by
                            rw [pick_val hL0 (by rw [← HK.out]; exact hnz), ← HHI.out, ← HLO.out]
                          rw [hPK] at HG
                          have hi64 : hi < 18446744073709551616 := by
                            have h1 : hi ≤ L - 1 := by
                              rw [HHI.out, hiP]
                              split
                              · exact Nat.min_le_left _ _
                              · exact Nat.le_refl _
                            exact Nat.lt_of_le_of_lt (Nat.le_trans h1 (Nat.sub_le _ _)) hL64
                          clear hPK hnz hsh
                          by_cases hlh : hi < lo
                          · have hlhi : (hi : Int) < lo := by omega
                            go_wp2_with fail
                            go_roundg (N - (i + 1))
                            case measure => omega
                            case rel =>
                              obtain ⟨k1, k2, k3, k4⟩ := HO3.out
                              refine ⟨i + 1, ys, os, r', rfl, by go_num, by omega, Nat.le_refl _, k1, k3, k4, by omega, ?_, k2⟩
                              have h := HG.out.out
                              rw [if_pos hlh] at h
                              exact hide (by simpa using h)
                          · have hlhi : ¬ (hi : Int) < lo := by omega
                            have g1 : IntKind.u64.wrap ((st : Int) + 1) = (add64 st 1 : Nat) := add64_int st 1
                            have g2 := add64_int (add64 st 1) lo
                            have g3 := add64_int (add64 (add64 st 1) lo) ((hi - lo) / 2)
                            obtain ⟨c, hc⟩ : ∃ c, c = midP st lo hi := ⟨_, rfl⟩
                            have HC0 := hide hc
                            rw [midP] at hc
                            rw [← hc] at g3
                            have g4 : IntKind.u64.wrap ((hi : Int) - lo) = ((hi - lo : Nat) : Int) := by rw [IntKind.wrap_u64]; omega
                            have g5 : (((hi - lo : Nat) : Int) / 2) = (((hi - lo) / 2 : Nat) : Int) := by omega
                            have g6 : (hi - lo) / 2 < 18446744073709551616 := by omega
                            have g7 : hi - lo < 18446744073709551616 := by omega
                            have g8 := add64_lt st 1
                            have g9 := add64_lt (add64 st 1) lo
                            have g10 : c < 18446744073709551616 := by rw [hc]; exact add64_lt _ _
                            generalize add64 (add64 st 1) lo = c2 at g2 g3 g9
                            generalize add64 st 1 = c1 at g1 g2 g8
                            generalize (hi - lo) / 2 = c3 at g3 g5 g6
                            generalize hi - lo = c4 at g4 g5 g7
                            have g11 : IntKind.u64.wrap (c3 : Int) = c3 := by rw [IntKind.wrap_u64]; omega
                            clear hc
                            obtain ⟨k1, k2, k3, k4⟩ := HO3.out
                            have HC := hide (ins_at w.heap.size _ ys c wc k1 k2.size (by omega) k3)
                            have HK4 := hide (And.intro k2 k4)
                            have HLH := hide hlh
                            clear k1 k2 k3 k4 HO3 hlh
                            go_wp2_with (go_at_call 12; refine HC.out.mono ?_; rintro e w2 ⟨v', zs, rfl, hO2, hP2, hA2, ho2⟩)
                            go_roundg (N - (i + 1))
                            case measure => omega
                            case rel =>
                              obtain ⟨k2, k4⟩ := HK4.out
                              refine ⟨i + 1, zs, os ++ [c], r', rfl, by go_num, by omega, Nat.le_refl _, hO2, hA2, ?_, ?_, ?_, k2.trans (ho2.below k2.size (fun _ h => h))⟩
                              · exact hP2.trans ((List.Perm.cons _ k4).trans (List.perm_append_singleton _ _).symm)
                              · rw [hP2.length_eq]; simp; omega
                              · have h := HG.out.out
                                rw [if_neg HLH.out, ← HC0.out] at h
                                exact hide (by simpa using h)
    · have hlti : ¬ (i : Int) < N := by omega
      go_wp2_with fail
      go_ret
      have : N - i = 0 := by omega
      have he := HE.out
      rw [this, stps] at he
      rw [← he]
      exact ⟨_, rfl, ys, hO, hA, hP, hB⟩

end Go.Proofs.YbulkdjggFmt
