/-
  sort.partialInsertionSort_func (49) over a 'less' that may lay blocks.
-/
import Derived.Test.YbulkdjggFmtH
namespace Go.Proofs.YbulkdjggFmt
open Go.RowKit Go.Sort

section
variable {blk off size B : Nat} {lt : Pt → Pt → Bool} {l0 l1 : Value} {sf : Nat} {s0 s1 : Value} {Cx : Ctx}

theorem nt {x : Bool} (h : (!x) = true) : x = false := by simpa using h
theorem nf {x : Bool} (h : (!x) = false) : x = true := by simpa using h

theorem scanSorted_range (lt : Pt → Pt → Bool) (d : Array Pt) (b : Nat) : ∀ (n i : Nat), b - i ≤ n → i ≤ b → i ≤ scanSorted lt d b i ∧ scanSorted lt d b i ≤ b := by
  intro n
  induction n with
  | zero => intro i h1 h2; rw [scanSorted_stop lt d b i (.inl (by omega))]; omega
  | succ n ih =>
    intro i h1 h2
    by_cases h : i < b
    · cases hl : lt d[i]! d[i - 1]! with
      | true => rw [scanSorted_stop lt d b i (.inr hl)]; omega
      | false =>
        rw [scanSorted_go lt d b i h hl]
        have := ih (i + 1) (by omega) (by omega)
        omega
    · rw [scanSorted_stop lt d b i (.inl h)]; omega

set_option maxHeartbeats 4000000 in
set_option maxRecDepth 100000 in
theorem partial_any (hS : Srt blk off size B lt l0 l1 sf s0 s1 Cx) (a b : Nat) (d : Array Pt) (w : World) (hv : Sv blk off size B Cx w d) (hab : a < b) (hb : b ≤ size) :
    Calls Ybaf.prog 49 #[.agg #[.func (.func 22) #[] #[l0, l1], .func (.func sf) #[] #[s0, s1]], .int .i64 a, .int .i64 b] w fun e w' =>
      e = .returned (.bool (partialInsertionSort lt d a b).2) ∧ Sv blk off size B Cx w' (partialInsertionSort lt d a b).1 ∧ Ot (fun k => k = blk) w w' := by
  have v1 := Ss.new hS hv
  have hbB := hv.big
  have hlow := hS.low
  have hsm := hS.small
  have hne : w.heap.size ≠ blk := by omega
  have HS := hide hS
  clear hv hS
  obtain ⟨R, hR⟩ : ∃ R, R = partialInsertionSort lt d a b := ⟨_, rfl⟩
  rw [← hR]
  unfold partialInsertionSort at hR
  have HR := hide hR
  clear hR
  go_enter Ybaf.func49, Ybaf.ntmps49
  go_wp2_with fail
  go_loopg [7, 8] 5 (fun kx s7 s8 wr => ∃ (i s : Nat) (dk : Array Pt), s7 = .int .i64 i ∧ s8 = .int .i64 s ∧ a < i ∧ i ≤ b ∧ s ≤ 5 ∧ 5 - s ≤ kx ∧ Ss blk off size B l0 l1 sf s0 s1 Cx w w.heap.size wr dk ∧ partialIns lt a b (5 - s) i dk = R)
  case atStart => exact ⟨a + 1, 0, d, by go_num, rfl, by omega, by omega, by omega, Nat.le_refl _, v1, HR.out.symm⟩
  case round =>
    clear v1 HR
    obtain ⟨i, s, dk, rfl, rfl, hai, hib, hs5, hkx, hs, hE⟩ := hrel
    have HE := hide hE
    clear hE
    by_cases hlt : s < 5
    · have hlti : (s : Int) < 5 := by omega
      go_upto_block 2 with (fail)
      go_cut [7] (fun v wx => v = .int .i64 (scanSorted lt dk b i : Nat) ∧ Ss blk off size B l0 l1 sf s0 s1 Cx w w.heap.size wx dk)
      case first =>
        go_wp2_with fail
        go_loopg [7] (b - i) (fun kx v wx => ∃ i' : Nat, v = .int .i64 i' ∧ i ≤ i' ∧ i' ≤ b ∧ b - i' ≤ kx ∧ Ss blk off size B l0 l1 sf s0 s1 Cx w w.heap.size wx dk ∧ scanSorted lt dk b i' = scanSorted lt dk b i)
        case atStart => exact ⟨i, rfl, Nat.le_refl _, hib, Nat.le_refl _, hs, rfl⟩
        case round =>
          clear hs
          obtain ⟨i', rfl, h1, h2, h3, hs', hU⟩ := hrel
          have HU := hide hU
          clear hU
          have c0 := hs'.dt.c0
          by_cases hle : i' < b
          · have hlei : (i' : Int) < b := by omega
            have hm1 : ((i' : Int) - 1) = ((i' - 1 : Nat) : Int) := by omega
            go_wp2_with (first
              | (go_at_call 22; refine (Ss.less (by assumption) HS.out _ _ (by omega) (by omega) (by omega) (by omega)).mono ?_; rintro e w2 ⟨rfl, hs2'⟩)
              | fail)
            · go_roundg (b - (i' + 1))
              case measure => omega
              case rel => exact ⟨i' + 1, by go_num, by omega, by omega, Nat.le_refl _, hs2', by rw [← HU.out, scanSorted_go lt dk b i' hle (nt (by assumption))]⟩
            · go_meet
              refine ⟨?_, hs2'⟩
              rw [← HU.out, scanSorted_stop lt dk b i' (.inr (nf (by assumption)))]
          · have hlei : ¬ (i' : Int) < b := by omega
            go_wp2_with fail
            go_meet
            refine ⟨?_, hs'⟩
            rw [← HU.out, scanSorted_stop lt dk b i' (.inl hle)]
      case rest =>
        obtain ⟨rfl, hs2⟩ := hcut
        clear hs
        have hU := scanSorted_range lt dk b _ i (Nat.le_refl _) hib
        obtain ⟨K, hK⟩ : ∃ z, z = scanSorted lt dk b i := ⟨_, rfl⟩
        rw [← hK] at hU ⊢
        have hU1 := hU.1
        have hU2 := hU.2
        have HK := hide hK
        clear hU hK
        by_cases hKb : K = b
        · have hKbi : (K : Int) = b := by omega
          have he := pi_true lt a b s i dk hlt (HK.out.symm.trans hKb)
          have HB := hide he
          clear he
          go_wp2_with fail
          go_ret
          refine ⟨?_, ?_, hs2.ot⟩
          · rw [← HE.out, HB.out]
            rfl
          · rw [← HE.out, HB.out]
            exact hs2.sv
        · have hKbi : ¬ (K : Int) = b := by omega
          have hba : ((b : Int) - a) = ((b - a : Nat) : Int) := by omega
          by_cases h50 : b - a < 50
          · have h50i : ((b - a : Nat) : Int) < 50 := by omega
            have he := pi_short lt a b s i dk hlt (fun h => hKb (HK.out.trans h)) h50
            have HB := hide he
            clear he
            go_wp2_with fail
            go_ret
            refine ⟨?_, ?_, hs2.ot⟩
            · rw [← HE.out, HB.out]
              rfl
            · rw [← HE.out, HB.out]
              exact hs2.sv
          · have h50i : ¬ ((b - a : Nat) : Int) < 50 := by omega
            have he := pi_go lt a b s i K dk hlt HK.out.symm hKb h50
            have HB := hide he
            clear he
            have c1 := hs2.dt.c1
            have hK1 : ((K : Int) - 1) = ((K - 1 : Nat) : Int) := by omega
            have hKa : ((K : Int) - a) = ((K - a : Nat) : Int) := by omega
            obtain ⟨w5, hr5, h5⟩ := hs2.swap HS.out hne K (K - 1 : Nat) K (K - 1) rfl rfl (by omega) (by omega)
            clear hs2
            obtain ⟨d5, hd5⟩ : ∃ d5, d5 = swp dk K (K - 1) := ⟨_, rfl⟩
            rw [← hd5] at h5
            have HD5 := hide hd5
            clear hd5
            go_upto_if 47 with (fail)
            clear c1 hr5
            go_cut [] (fun wx => Ss blk off size B l0 l1 sf s0 s1 Cx w w.heap.size wx (fixDown lt a K d5))
            case first =>
              by_cases h2 : 2 ≤ K - a
              · have h2i : (2 : Int) ≤ ((K - a : Nat) : Int) := by omega
                go_wp2_with fail
                go_loopg [9] (K - 1) (fun kx v wx => ∃ (j : Nat) (dj : Array Pt), v = .int .i64 j ∧ j ≤ K - 1 ∧ j ≤ kx ∧ Ss blk off size B l0 l1 sf s0 s1 Cx w w.heap.size wx dj ∧ shiftDown lt j dj = fixDown lt a K d5)
                case atStart => exact ⟨K - 1, d5, rfl, Nat.le_refl _, Nat.le_refl _, h5, by rw [fixDown, if_pos h2]⟩
                case round =>
                  clear h5
                  obtain ⟨j, dj, rfl, hj1, hj2, hs', hU⟩ := hrel
                  have HU := hide hU
                  clear hU
                  have c0 := hs'.dt.c0
                  by_cases hle : 1 ≤ j
                  · have hlei : (1 : Int) ≤ j := by omega
                    have hm1 : ((j : Int) - 1) = ((j - 1 : Nat) : Int) := by omega
                    go_wp2_with (first
                      | (go_at_call 22; refine (Ss.less (by assumption) HS.out _ _ (by omega) (by omega) (by omega) (by omega)).mono ?_; rintro e w2 ⟨rfl, hs2'⟩; have c1 := hs2'.dt.c1; obtain ⟨w6, hr6, h6⟩ := hs2'.swap HS.out hne j (j - 1 : Nat) j (j - 1) rfl rfl (by omega) (by omega); have H6 := hide h6; clear h6)
                      | fail)
                    · go_meet
                      rw [← HU.out, shiftDown_stop lt j dj (.inr (nt (by assumption)))]
                      exact hs2'
                    · have hl := shiftDown_go lt j dj hle (nf (by assumption))
                      have HL := hide hl
                      clear hl
                      go_roundg (j - 1)
                      case measure => omega
                      case rel => exact ⟨j - 1, _, rfl, by omega, Nat.le_refl _, H6.out, by rw [← HU.out, HL.out]⟩
                  · have hlei : ¬ (1 : Int) ≤ j := by omega
                    go_wp2_with fail
                    go_meet
                    rw [← HU.out, shiftDown_stop lt j dj (.inl (by omega))]
                    exact hs'
              · have h2i : ¬ (2 : Int) ≤ ((K - a : Nat) : Int) := by omega
                go_wp2_with fail
                go_meet
                rw [fixDown, if_neg h2]
                exact h5
            case rest =>
              clear h5
              obtain ⟨d6, hd6⟩ : ∃ d6, d6 = fixDown lt a K d5 := ⟨_, rfl⟩
              rw [← hd6] at hcut
              have HD6 := hide hd6
              clear hd6
              have hbK : ((b : Int) - K) = ((b - K : Nat) : Int) := by omega
              by_cases h2 : 2 ≤ b - K
              · have h2i : (2 : Int) ≤ ((b - K : Nat) : Int) := by omega
                go_wp2_with fail
                go_loopg [10] (b - (K + 1)) (fun kx v wx => ∃ (j : Nat) (dj : Array Pt), v = .int .i64 j ∧ K + 1 ≤ j ∧ j ≤ b ∧ b - j ≤ kx ∧ Ss blk off size B l0 l1 sf s0 s1 Cx w w.heap.size wx dj ∧ shiftUp lt b j dj = fixUp lt b K d6)
                case atStart => exact ⟨K + 1, d6, by go_num, Nat.le_refl _, by omega, Nat.le_refl _, hcut, by rw [fixUp, if_pos h2]⟩
                case round =>
                  clear hcut
                  obtain ⟨j, dj, rfl, hj1, hj2, hj3, hs', hU⟩ := hrel
                  have HU := hide hU
                  clear hU
                  have c0 := hs'.dt.c0
                  by_cases hle : j < b
                  · have hlei : (j : Int) < b := by omega
                    have hm1 : ((j : Int) - 1) = ((j - 1 : Nat) : Int) := by omega
                    go_upto_if 84 with (first
                      | (go_at_call 22; refine (Ss.less (by assumption) HS.out _ _ (by omega) (by omega) (by omega) (by omega)).mono ?_; rintro e w2 ⟨rfl, hs2'⟩; have c1 := hs2'.dt.c1; obtain ⟨w6, hr6, h6⟩ := hs2'.swap HS.out hne j (j - 1 : Nat) j (j - 1) rfl rfl (by omega) (by omega); have H6 := hide h6; clear h6)
                      | fail)
                    cases hl : lt dj[j]! dj[j - 1]! with
                    | false =>
                      have hq : fixUp lt b K d6 = dj := by rw [← HU.out, shiftUp_stop lt b j dj (.inr hl)]
                      have HQ := hide hq
                      clear hq
                      go_wp2_with fail
                      go_roundg (5 - (s + 1))
                      case measure => omega
                      case rel => exact ⟨K, s + 1, _, rfl, by go_num, by omega, by omega, by omega, Nat.le_refl _, hs2', by rw [← HE.out, HB.out, ← HD5.out, ← HD6.out, HQ.out]⟩
                    | true =>
                      have hg := shiftUp_go lt b j dj hle hl
                      have HL := hide hg
                      clear hg
                      go_wp2_with fail
                      go_roundg (b - (j + 1))
                      case measure => omega
                      case rel => exact ⟨j + 1, _, by go_num, by omega, by omega, Nat.le_refl _, H6.out, by rw [← HU.out, HL.out]⟩
                  · have hlei : ¬ (j : Int) < b := by omega
                    have hq : fixUp lt b K d6 = dj := by rw [← HU.out, shiftUp_stop lt b j dj (.inl hle)]
                    have HQ := hide hq
                    clear hq
                    go_wp2_with fail
                    go_roundg (5 - (s + 1))
                    case measure => omega
                    case rel => exact ⟨K, s + 1, _, rfl, by go_num, by omega, by omega, by omega, Nat.le_refl _, hs', by rw [← HE.out, HB.out, ← HD5.out, ← HD6.out, HQ.out]⟩
              · have h2i : ¬ (2 : Int) ≤ ((b - K : Nat) : Int) := by omega
                have hq : fixUp lt b K d6 = d6 := by rw [fixUp, if_neg h2]
                have HQ := hide hq
                clear hq
                go_wp2_with fail
                go_roundg (5 - (s + 1))
                case measure => omega
                case rel => exact ⟨K, s + 1, _, rfl, by go_num, by omega, by omega, by omega, Nat.le_refl _, hcut, by rw [← HE.out, HB.out, ← HD5.out, ← HD6.out, HQ.out]⟩
    · have hs5' : s = 5 := by omega
      subst hs5'
      have he := pi_end lt a b i dk
      have HB := hide he
      clear he
      go_wp2_with fail
      go_ret
      refine ⟨?_, ?_, hs.ot⟩
      · rw [← HE.out, HB.out]
        rfl
      · rw [← HE.out, HB.out]
        exact hs.sv
end

end Go.Proofs.YbulkdjggFmt
