/-
  sort.partition_func (51) over a 'less' that may lay blocks.
-/
import Derived.Test.YbulkdjggFmtG
namespace Go.Proofs.YbulkdjggFmt
open Go.RowKit Go.Sort

section
variable {blk off size B : Nat} {lt : Pt → Pt → Bool} {l0 l1 : Value} {sf : Nat} {s0 s1 : Value} {Cx : Ctx}

set_option maxHeartbeats 4000000 in
set_option maxRecDepth 100000 in
theorem part_any (hS : Srt blk off size B lt l0 l1 sf s0 s1 Cx) (a b pv : Nat) (d : Array Pt) (w : World) (hv : Sv blk off size B Cx w d) (hab : a + 1 < b) (hb : b ≤ size) (hpv : pv < size) :
    Calls Ybaf.prog 51 #[.agg #[.func (.func 22) #[] #[l0, l1], .func (.func sf) #[] #[s0, s1]], .int .i64 a, .int .i64 b, .int .i64 pv] w fun e w' =>
      e = .returned (.tuple #[.int .i64 (partition lt d a b pv).1, .bool (partition lt d a b pv).2.1]) ∧ Sv blk off size B Cx w' (partition lt d a b pv).2.2 ∧ Ot (fun k => k = blk) w w' := by
  have v1 := Ss.new hS hv
  have hbB := hv.big
  have hlow := hS.low
  have hsm := hS.small
  have hne : w.heap.size ≠ blk := by omega
  have c1 := v1.dt.c1
  obtain ⟨w3, hr3, h3⟩ := v1.swap hS hne a pv a pv rfl rfl (by omega) hpv
  have HS := hide hS
  clear hv hS v1
  obtain ⟨d1, hd1⟩ : ∃ d1, d1 = swp d a pv := ⟨_, rfl⟩
  rw [← hd1] at h3
  have HD1 := hide hd1
  clear hd1
  obtain ⟨b1, hb1⟩ : ∃ b1, b1 = b - 1 := ⟨_, rfl⟩
  have hbi1 : ((b : Int) - 1) = (b1 : Int) := by omega
  have hbb : b1 < b ∧ a < b1 := by omega
  have HB1 := hide hb1
  clear hb1
  obtain ⟨a1, ha1⟩ : ∃ a1, a1 = a + 1 := ⟨_, rfl⟩
  have hai1 : ((a : Int) + 1) = (a1 : Int) := by omega
  have haa : a < a1 ∧ a1 ≤ b1 := by omega
  have HA1 := hide ha1
  clear ha1
  go_enter Ybaf.func51, Ybaf.ntmps51
  go_upto_block 0 with (fail)
  go_cut [10] (fun v wx => v = .int .i64 (scanUp (fun x => lt x d1[a]!) d1 b1 a1 : Nat) ∧ Ss blk off size B l0 l1 sf s0 s1 Cx w w.heap.size wx d1)
  case first =>
    go_wp2_with fail
    go_loopg [10] (b1 + 1 - a1) (fun kx v wx => ∃ i' : Nat, v = .int .i64 i' ∧ a1 ≤ i' ∧ i' ≤ b1 + 1 ∧ b1 + 1 - i' ≤ kx ∧ Ss blk off size B l0 l1 sf s0 s1 Cx w w.heap.size wx d1 ∧ scanUp (fun x => lt x d1[a]!) d1 b1 i' = scanUp (fun x => lt x d1[a]!) d1 b1 a1)
    case atStart => exact ⟨a1, by go_num, Nat.le_refl _, by omega, Nat.le_refl _, h3, rfl⟩
    case round =>
      clear h3
      obtain ⟨i', rfl, h1, h2, h3, hs', hU⟩ := hrel
      have HU := hide hU
      clear hU
      have c0 := hs'.dt.c0
      by_cases hle : i' ≤ b1
      · have hlei : (i' : Int) ≤ (b1 : Nat) := by omega
        go_wp2_with (first
          | (go_at_call 22; refine (Ss.less (by assumption) HS.out _ _ (by omega) (by omega) (by omega) (by omega)).mono ?_; rintro e w2 ⟨rfl, hs2'⟩)
          | fail)
        · go_roundg (b1 + 1 - (i' + 1))
          case measure => omega
          case rel => exact ⟨i' + 1, by go_num, by omega, by omega, Nat.le_refl _, hs2', by rw [← HU.out, scanUp_go _ _ _ _ hle (by assumption)]⟩
        · go_meet
          refine ⟨?_, hs2'⟩
          rw [← HU.out, scanUp_end _ _ _ _ (.inr (by assumption))]
      · have hlei : ¬ (i' : Int) ≤ (b1 : Nat) := by omega
        go_wp2_with fail
        go_meet
        refine ⟨?_, hs'⟩
        rw [← HU.out, scanUp_end _ _ _ _ (.inl hle)]
  case rest =>
    obtain ⟨rfl, hs2⟩ := hcut
    clear h3
    have hU := scanUp_spec (fun x => lt x d1[a]!) d1 b1 _ (a1) rfl
    obtain ⟨I2, hI2⟩ : ∃ z, z = scanUp (fun x => lt x d1[a]!) d1 b1 a1 := ⟨_, rfl⟩
    rw [← hI2] at hU ⊢
    have hU1I2 := hU.1
    have hU2I2 := hU.2.1 (by omega)
    have HI2 := hide hI2
    clear hU hI2
    go_upto_block 2 with (fail)
    go_cut [11] (fun v wx => v = .int .i64 (scanDown (fun x => !lt x d1[a]!) d1 I2 b1 : Nat) ∧ Ss blk off size B l0 l1 sf s0 s1 Cx w w.heap.size wx d1)
    case first =>
      go_wp2_with fail
      go_loopg [11] (b1 + 1 - I2) (fun kx v wx => ∃ i' : Nat, v = .int .i64 i' ∧ i' ≤ b1 ∧ I2 ≤ i' + 1 ∧ i' + 1 - I2 ≤ kx ∧ Ss blk off size B l0 l1 sf s0 s1 Cx w w.heap.size wx d1 ∧ scanDown (fun x => !lt x d1[a]!) d1 I2 i' = scanDown (fun x => !lt x d1[a]!) d1 I2 b1)
      case atStart => exact ⟨b1, by go_num, Nat.le_refl _, by omega, Nat.le_refl _, hs2, rfl⟩
      case round =>
        clear hs2
        obtain ⟨i', rfl, h1, h2, h3, hs', hU⟩ := hrel
        have HU := hide hU
        clear hU
        have c0 := hs'.dt.c0
        by_cases hle : I2 ≤ i'
        · have hlei : ((I2 : Nat) : Int) ≤ i' := by omega
          go_wp2_with (first
            | (go_at_call 22; refine (Ss.less (by assumption) HS.out _ _ (by omega) (by omega) (by omega) (by omega)).mono ?_; rintro e w2 ⟨rfl, hs2'⟩)
            | fail)
          · go_roundg (i' - 1 + 1 - I2)
            case measure => omega
            case rel => exact ⟨i' - 1, by rw [show ((i' : Int) - 1) = ((i' - 1 : Nat) : Int) by omega], by omega, by omega, Nat.le_refl _, hs2', by rw [← HU.out, scanDown_go _ _ _ _ hle (by omega) (by assumption)]⟩
          · go_meet
            refine ⟨?_, hs2'⟩
            rw [← HU.out, scanDown_end _ _ _ _ (.inr (by assumption))]
        · have hlei : ¬ ((I2 : Nat) : Int) ≤ i' := by omega
          go_wp2_with fail
          go_meet
          refine ⟨?_, hs'⟩
          rw [← HU.out, scanDown_end _ _ _ _ (.inl hle)]
    case rest =>
      obtain ⟨rfl, hs3⟩ := hcut
      clear hs2
      have hU := scanDown_spec (fun x => !lt x d1[a]!) d1 I2 b1
      obtain ⟨J2, hJ2⟩ : ∃ z, z = scanDown (fun x => !lt x d1[a]!) d1 I2 b1 := ⟨_, rfl⟩
      rw [← hJ2] at hU ⊢
      have hU1J2 := hU.1
      have hU2J2 := hU.2.1 (by omega)
      have HJ2 := hide hJ2
      clear hU hJ2
      by_cases hgt : J2 < I2
      · have hgti : (J2 : Int) < I2 := by omega
        have he := part_first_break lt d a b pv HA1.out HB1.out HD1.out HI2.out HJ2.out hgt
        have HB := hide he
        clear he
        have c1 := hs3.dt.c1
        obtain ⟨w5, hr5, h5⟩ := hs3.swap HS.out hne J2 a J2 a rfl rfl (by omega) (by omega)
        have H5 := hide h5
        clear h5
        go_wp2_with fail
        go_ret2
        refine ⟨?_, ?_, H5.out.ot⟩
        · rw [HB.out]
          rfl
        · rw [HB.out]
          exact H5.out.sv
      · have hgti : ¬ (J2 : Int) < I2 := by omega
        have hst := part_scans_lt lt a a1 b1 d1 (by omega) HI2.out HJ2.out (by omega)
        obtain ⟨R, hR⟩ : ∃ R, R = partLoop lt a (I2 + 1) (J2 - 1) (swp d1 I2 J2) := ⟨_, rfl⟩
        have he : partition lt d a b pv = (R.1, false, swp R.2 R.1 a) := by rw [hR]; exact part_first_go lt d a b pv HA1.out HB1.out HD1.out HI2.out HJ2.out (by omega)
        have HP := hide he
        clear he
        have c1 := hs3.dt.c1
        obtain ⟨w5, hr5, h5⟩ := hs3.swap HS.out hne I2 J2 I2 J2 rfl rfl (by omega) (by omega)
        have HR := hide (And.intro hR.symm h5)
        clear hR h5 hs3
        go_wp2_with fail
        clear c1 hr5
        go_loopg [10, 11] (J2 - 1 + 1 - (I2 + 1)) (fun kx s9 s10 wr => ∃ (i j : Nat) (dk : Array Pt), s9 = .int .i64 i ∧ s10 = .int .i64 j ∧ a < i ∧ j < b ∧ i ≤ j + 1 ∧ j + 1 - i ≤ kx ∧ Ss blk off size B l0 l1 sf s0 s1 Cx w w.heap.size wr dk ∧ partLoop lt a i j dk = R)
        case atStart => exact ⟨I2 + 1, J2 - 1, _, by go_num, by rw [show ((J2 : Int) - 1) = ((J2 - 1 : Nat) : Int) by omega], by omega, by omega, by omega, Nat.le_refl _, HR.out.2, HR.out.1⟩
        case round =>
          clear HR HI2 HJ2 HD1 HA1 HB1 hst hgt hgti hbi1 hai1 hbb haa
          clear hr3 c1
          obtain ⟨i, j, dk, rfl, rfl, hai, hjb, hij, hkx, hs, hE⟩ := hrel
          have HE := hide hE
          clear hE
          go_upto_block 6 with (fail)
          go_cut [10] (fun v wx => v = .int .i64 (scanUp (fun x => lt x dk[a]!) dk j i : Nat) ∧ Ss blk off size B l0 l1 sf s0 s1 Cx w w.heap.size wx dk)
          case first =>
            go_wp2_with fail
            go_loopg [10] (j + 1 - i) (fun kx v wx => ∃ i' : Nat, v = .int .i64 i' ∧ i ≤ i' ∧ i' ≤ j + 1 ∧ j + 1 - i' ≤ kx ∧ Ss blk off size B l0 l1 sf s0 s1 Cx w w.heap.size wx dk ∧ scanUp (fun x => lt x dk[a]!) dk j i' = scanUp (fun x => lt x dk[a]!) dk j i)
            case atStart => exact ⟨i, by go_num, Nat.le_refl _, by omega, Nat.le_refl _, hs, rfl⟩
            case round =>
              clear hs
              obtain ⟨i', rfl, h1, h2, h3, hs', hU⟩ := hrel
              have HU := hide hU
              clear hU
              have c0 := hs'.dt.c0
              by_cases hle : i' ≤ j
              · have hlei : (i' : Int) ≤ (j : Nat) := by omega
                go_wp2_with (first
                  | (go_at_call 22; refine (Ss.less (by assumption) HS.out _ _ (by omega) (by omega) (by omega) (by omega)).mono ?_; rintro e w2 ⟨rfl, hs2'⟩)
                  | fail)
                · go_roundg (j + 1 - (i' + 1))
                  case measure => omega
                  case rel => exact ⟨i' + 1, by go_num, by omega, by omega, Nat.le_refl _, hs2', by rw [← HU.out, scanUp_go _ _ _ _ hle (by assumption)]⟩
                · go_meet
                  refine ⟨?_, hs2'⟩
                  rw [← HU.out, scanUp_end _ _ _ _ (.inr (by assumption))]
              · have hlei : ¬ (i' : Int) ≤ (j : Nat) := by omega
                go_wp2_with fail
                go_meet
                refine ⟨?_, hs'⟩
                rw [← HU.out, scanUp_end _ _ _ _ (.inl hle)]
          case rest =>
            obtain ⟨rfl, hs4⟩ := hcut
            clear hs
            have hU := scanUp_spec (fun x => lt x dk[a]!) dk j _ (i) rfl
            obtain ⟨I3, hI3⟩ : ∃ z, z = scanUp (fun x => lt x dk[a]!) dk j i := ⟨_, rfl⟩
            rw [← hI3] at hU ⊢
            have hU1I3 := hU.1
            have hU2I3 := hU.2.1 (by omega)
            have HI3 := hide hI3
            clear hU hI3
            go_upto_block 8 with (fail)
            go_cut [11] (fun v wx => v = .int .i64 (scanDown (fun x => !lt x dk[a]!) dk I3 j : Nat) ∧ Ss blk off size B l0 l1 sf s0 s1 Cx w w.heap.size wx dk)
            case first =>
              go_wp2_with fail
              go_loopg [11] (j + 1 - I3) (fun kx v wx => ∃ i' : Nat, v = .int .i64 i' ∧ i' ≤ j ∧ I3 ≤ i' + 1 ∧ i' + 1 - I3 ≤ kx ∧ Ss blk off size B l0 l1 sf s0 s1 Cx w w.heap.size wx dk ∧ scanDown (fun x => !lt x dk[a]!) dk I3 i' = scanDown (fun x => !lt x dk[a]!) dk I3 j)
              case atStart => exact ⟨j, by go_num, Nat.le_refl _, by omega, Nat.le_refl _, hs4, rfl⟩
              case round =>
                clear hs4
                obtain ⟨i', rfl, h1, h2, h3, hs', hU⟩ := hrel
                have HU := hide hU
                clear hU
                have c0 := hs'.dt.c0
                by_cases hle : I3 ≤ i'
                · have hlei : ((I3 : Nat) : Int) ≤ i' := by omega
                  go_wp2_with (first
                    | (go_at_call 22; refine (Ss.less (by assumption) HS.out _ _ (by omega) (by omega) (by omega) (by omega)).mono ?_; rintro e w2 ⟨rfl, hs2'⟩)
                    | fail)
                  · go_roundg (i' - 1 + 1 - I3)
                    case measure => omega
                    case rel => exact ⟨i' - 1, by rw [show ((i' : Int) - 1) = ((i' - 1 : Nat) : Int) by omega], by omega, by omega, Nat.le_refl _, hs2', by rw [← HU.out, scanDown_go _ _ _ _ hle (by omega) (by assumption)]⟩
                  · go_meet
                    refine ⟨?_, hs2'⟩
                    rw [← HU.out, scanDown_end _ _ _ _ (.inr (by assumption))]
                · have hlei : ¬ ((I3 : Nat) : Int) ≤ i' := by omega
                  go_wp2_with fail
                  go_meet
                  refine ⟨?_, hs'⟩
                  rw [← HU.out, scanDown_end _ _ _ _ (.inl hle)]
            case rest =>
              obtain ⟨rfl, hs5⟩ := hcut
              clear hs4
              have hU := scanDown_spec (fun x => !lt x dk[a]!) dk I3 j
              obtain ⟨J3, hJ3⟩ : ∃ z, z = scanDown (fun x => !lt x dk[a]!) dk I3 j := ⟨_, rfl⟩
              rw [← hJ3] at hU ⊢
              have hU1J3 := hU.1
              have hU2J3 := hU.2.1 (by omega)
              have HJ3 := hide hJ3
              clear hU hJ3
              by_cases hgt : J3 < I3
              · have hgti : (J3 : Int) < I3 := by omega
                have he := part_break lt a i j dk HI3.out HJ3.out hgt
                have c1 := hs5.dt.c1
                obtain ⟨w5, hr5, h5⟩ := hs5.swap HS.out hne J3 a J3 a rfl rfl (by omega) (by omega)
                have HB := hide (And.intro he h5)
                clear he h5
                go_wp2_with fail
                go_ret2
                refine ⟨?_, ?_, HB.out.2.ot⟩
                · rw [HP.out, ← HE.out, HB.out.1]
                  rfl
                · rw [HP.out, ← HE.out, HB.out.1]
                  exact HB.out.2.sv
              · have hgti : ¬ (J3 : Int) < I3 := by omega
                have hst := part_scans_lt lt a i j dk (by omega) HI3.out HJ3.out (by omega)
                have he := part_go lt a i j dk HI3.out HJ3.out (by omega)
                have c1 := hs5.dt.c1
                obtain ⟨w5, hr5, h5⟩ := hs5.swap HS.out hne I3 J3 I3 J3 rfl rfl (by omega) (by omega)
                have HB := hide (And.intro he h5)
                clear he h5
                go_wp2_with fail
                go_roundg (J3 - 1 + 1 - (I3 + 1))
                case measure => omega
                case rel => exact ⟨I3 + 1, J3 - 1, _, by go_num, by rw [show ((J3 : Int) - 1) = ((J3 - 1 : Nat) : Int) by omega], by omega, by omega, by omega, Nat.le_refl _, HB.out.2, by rw [← HE.out, HB.out.1]⟩
end

end Go.Proofs.YbulkdjggFmt
