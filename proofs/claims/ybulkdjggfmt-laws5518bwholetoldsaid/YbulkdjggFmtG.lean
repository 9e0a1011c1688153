/-
  sort.partitionEqual_func (50) over a 'less' that may lay blocks.
-/
import Derived.Test.YbulkdjggFmtF
import Derived.Deep.CutBlock
import Derived.Deep.DeepCutAuto
namespace Go.Proofs.YbulkdjggFmt
open Go.RowKit Go.Sort

section
variable {blk off size B : Nat} {lt : Pt → Pt → Bool} {l0 l1 : Value} {sf : Nat} {s0 s1 : Value} {Cx : Ctx}

set_option maxHeartbeats 2000000 in
set_option maxRecDepth 100000 in
theorem parteq_any (hS : Srt blk off size B lt l0 l1 sf s0 s1 Cx) (a b pv : Nat) (d : Array Pt) (w : World) (hv : Sv blk off size B Cx w d) (hab : a < b) (hb : b ≤ size) (hpv : pv < size) :
    Calls Ybaf.prog 50 #[.agg #[.func (.func 22) #[] #[l0, l1], .func (.func sf) #[] #[s0, s1]], .int .i64 a, .int .i64 b, .int .i64 pv] w fun e w' =>
      e = .returned (.int .i64 (partitionEqual lt d a b pv).1) ∧ Sv blk off size B Cx w' (partitionEqual lt d a b pv).2 ∧ Ot (fun k => k = blk) w w' := by
  have v1 := Ss.new hS hv
  have hbB := hv.big
  have hlow := hS.low
  have hsm := hS.small
  have hne : w.heap.size ≠ blk := by omega
  have c1 := v1.dt.c1
  obtain ⟨w3, hr3, h3⟩ := v1.swap hS hne a pv a pv rfl rfl (by omega) hpv
  have HS := hide hS
  clear hv hS v1
  unfold partitionEqual
  obtain ⟨d1, hd1⟩ : ∃ d1, d1 = swp d a pv := ⟨_, rfl⟩
  rw [← hd1] at h3 ⊢
  have hb1 : ((b : Int) - 1) = ((b - 1 : Nat) : Int) := by omega
  go_enter Ybaf.func50, Ybaf.ntmps50
  go_wp2
  clear c1 hr3 hd1
  go_loopg [9, 10] (b - 1 + 1 - (a + 1)) (fun kx s9 s10 wr => ∃ (i j : Nat) (dk : Array Pt), s9 = .int .i64 i ∧ s10 = .int .i64 j ∧ a < i ∧ j < b ∧ i ≤ j + 1 ∧ j + 1 - i ≤ kx ∧ Ss blk off size B l0 l1 sf s0 s1 Cx w w.heap.size wr dk ∧ partEqLoop lt a i j dk = partEqLoop lt a (a + 1) (b - 1) d1)
  case atStart => exact ⟨a + 1, b - 1, d1, by go_num, rfl, by omega, by omega, by omega, Nat.le_refl _, h3, rfl⟩
  case round =>
    clear h3
    obtain ⟨i, j, dk, rfl, rfl, hai, hjb, hij, hkx, hs, hE⟩ := hrel
    have HE := hide hE
    clear hE hb1
    have hbi : (b : Int) ≤ size := by omega
    go_upto_block 2 with (fail)
    go_cut [9] (fun v wx => v = .int .i64 (scanUp (fun x => !lt dk[a]! x) dk j i : Nat) ∧ Ss blk off size B l0 l1 sf s0 s1 Cx w w.heap.size wx dk)
    case first =>
      go_wp2_with fail
      go_loopg [9] (j + 1 - i) (fun kx v wx => ∃ i' : Nat, v = .int .i64 i' ∧ i ≤ i' ∧ i' ≤ j + 1 ∧ j + 1 - i' ≤ kx ∧ Ss blk off size B l0 l1 sf s0 s1 Cx w w.heap.size wx dk ∧ scanUp (fun x => !lt dk[a]! x) dk j i' = scanUp (fun x => !lt dk[a]! x) dk j i)
      case atStart => exact ⟨i, rfl, Nat.le_refl _, hij, Nat.le_refl _, hs, rfl⟩
      case round =>
        clear hs
        obtain ⟨i', rfl, h1, h2, h3, hs, hU⟩ := hrel
        have HU := hide hU
        clear hU
        have c0 := hs.dt.c0
        by_cases hle : i' ≤ j
        · have hlei : (i' : Int) ≤ j := by omega
          go_wp2_with (first
            | (go_at_call 22; refine (Ss.less (by assumption) HS.out _ _ (by omega) (by omega) (by omega) (by omega)).mono ?_; rintro e w2 ⟨rfl, hs2⟩)
            | fail)
          · go_roundg (j + 1 - (i' + 1))
            case measure => omega
            case rel => exact ⟨i' + 1, by go_num, by omega, by omega, Nat.le_refl _, hs2, by rw [← HU.out, scanUp_go _ _ _ _ hle (by assumption)]⟩
          · go_meet
            refine ⟨?_, hs2⟩
            rw [← HU.out, scanUp_end _ _ _ _ (.inr (by assumption))]
        · have hlei : ¬ (i' : Int) ≤ j := by omega
          go_wp2_with fail
          go_meet
          refine ⟨?_, hs⟩
          rw [← HU.out, scanUp_end _ _ _ _ (.inl hle)]
    case rest =>
      obtain ⟨rfl, hs2⟩ := hcut
      clear hs
      have hU := scanUp_spec (fun x => !lt dk[a]! x) dk j _ i rfl
      obtain ⟨I2, hI2⟩ : ∃ I2, I2 = scanUp (fun x => !lt dk[a]! x) dk j i := ⟨_, rfl⟩
      rw [← hI2] at hU ⊢
      have hU1 := hU.1
      have hU2 := hU.2.1 hij
      have HI := hide hI2
      clear hU hI2
      go_upto_block 4 with (fail)
      go_cut [10] (fun v wx => v = .int .i64 (scanDown (fun x => lt dk[a]! x) dk I2 j : Nat) ∧ Ss blk off size B l0 l1 sf s0 s1 Cx w w.heap.size wx dk)
      case first =>
        go_wp2_with fail
        go_loopg [10] (j + 1 - I2) (fun kx v wx => ∃ j' : Nat, v = .int .i64 j' ∧ j' ≤ j ∧ I2 ≤ j' + 1 ∧ j' + 1 - I2 ≤ kx ∧ Ss blk off size B l0 l1 sf s0 s1 Cx w w.heap.size wx dk ∧ scanDown (fun x => lt dk[a]! x) dk I2 j' = scanDown (fun x => lt dk[a]! x) dk I2 j)
        case atStart => exact ⟨j, rfl, Nat.le_refl _, hU2, Nat.le_refl _, hs2, rfl⟩
        case round =>
          clear hs2
          obtain ⟨j', rfl, h1, h2, h3, hs, hU⟩ := hrel
          have HU := hide hU
          clear hU
          have c0 := hs.dt.c0
          by_cases hle : I2 ≤ j'
          · have hlei : (I2 : Int) ≤ j' := by omega
            go_wp2_with (first
              | (go_at_call 22; refine (Ss.less (by assumption) HS.out _ _ (by omega) (by omega) (by omega) (by omega)).mono ?_; rintro e w2 ⟨rfl, hs2⟩)
              | fail)
            · go_roundg (j' - 1 + 1 - I2)
              case measure => omega
              case rel => exact ⟨j' - 1, by rw [show ((j' : Int) - 1) = ((j' - 1 : Nat) : Int) by omega], by omega, by omega, Nat.le_refl _, hs2, by rw [← HU.out, scanDown_go _ _ _ _ hle (by omega) (by assumption)]⟩
            · go_meet
              refine ⟨?_, hs2⟩
              rw [← HU.out, scanDown_end _ _ _ _ (.inr (by assumption))]
          · have hlei : ¬ (I2 : Int) ≤ j' := by omega
            go_wp2_with fail
            go_meet
            refine ⟨?_, hs⟩
            rw [← HU.out, scanDown_end _ _ _ _ (.inl hle)]
      case rest =>
        obtain ⟨rfl, hs3⟩ := hcut
        clear hs2
        have hD := scanDown_spec (fun x => lt dk[a]! x) dk I2 j
        obtain ⟨J2, hJ2⟩ : ∃ J2, J2 = scanDown (fun x => lt dk[a]! x) dk I2 j := ⟨_, rfl⟩
        rw [← hJ2] at hD ⊢
        have hD1 := hD.1
        have hD2 := hD.2.1 hU2
        have HJ := hide hJ2
        clear hD hJ2
        by_cases hgt : J2 < I2
        · have hgti : (J2 : Int) < I2 := by omega
          have he := partEq_break lt a i j dk HI.out HJ.out hgt
          have HB := hide he
          clear he
          go_wp2_with fail
          go_ret
          refine ⟨?_, ?_, hs3.ot⟩
          · rw [← HE.out, HB.out]
            rfl
          · rw [← HE.out, HB.out]
            exact hs3.sv
        · have hgti : ¬ (J2 : Int) < I2 := by omega
          have hst := scans_lt lt a i j dk (by omega) HI.out HJ.out (by omega)
          have he := partEq_go lt a i j dk HI.out HJ.out (by omega)
          have c1 := hs3.dt.c1
          obtain ⟨w5, hr5, h5⟩ := hs3.swap HS.out hne I2 J2 I2 J2 rfl rfl (by omega) (by omega)
          have HB := hide (And.intro he h5)
          clear he h5
          go_wp2_with fail
          go_roundg (J2 - 1 + 1 - (I2 + 1))
          case measure => omega
          case rel => exact ⟨I2 + 1, J2 - 1, _, by go_num, by rw [show ((J2 : Int) - 1) = ((J2 - 1 : Nat) : Int) by omega], by omega, by omega, by omega, Nat.le_refl _, HB.out.2, by rw [← HE.out, HB.out.1]⟩
end

end Go.Proofs.YbulkdjggFmt
