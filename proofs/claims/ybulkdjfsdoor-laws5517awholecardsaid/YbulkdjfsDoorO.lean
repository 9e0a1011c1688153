import Derived.Test.YbulkdjfsDoorM
namespace Go.Proofs.YbulkdjfsDoor
open Go.RowKit
open Fl (R Out Nan Same)
attribute [local go_sem] run_store_flt

set_option maxHeartbeats 800000 in
set_option maxRecDepth 100000 in
theorem tadm_any (b1 b2 k s : Nat) (N : Nat → Nat) (w : World) (ht : Tab w b1 b2 N) (hk : k ≤ 640) :
    Calls Ybad.prog 9 #[.slice (some ⟨b1, 0, none⟩) 641 641, .slice (some ⟨b2, 0, none⟩) 641 641, .agg #[.int .i64 k, .float .f64 s]] w fun e w' =>
      ∃ r, e = .returned (.float .f64 r) ∧ Adm N k s r ∧ Below w.heap.size w w' := by
  have l1 := ht.lt1
  have l2 := ht.lt2
  have n1 : ¬ b1 = w.heap.size := by omega
  have n2 : ¬ b2 = w.heap.size := by omega
  have q1 := ht.cnt k hk
  have hm := run_float_op .mul (by simp) s (R (N k))
  have ha := fun m => run_float_op .add (by simp) (R (sumTo N (k - 1))) m
  have HA : Hid (∀ W W', Adm N k s (fo .add (R (sumTo N (k - 1))) (fo .mul s (R (N k)) W) W')) :=
    fun W W' => ⟨_, fo_out _ _ _ W, fo_out _ _ _ W'⟩
  have hb0 : Below w.heap.size w (w.alloc (.cells #[.int .i64 k, .float .f64 s] 30)) := (Below.refl _ _).alloc (Nat.le_refl _) _
  by_cases h0 : k = 0
  · subst h0
    have i0 : (0 : Int) < 641 := by omega
    have hz : R (sumTo N (0 - 1)) = 0 := rfl
    rw [hz] at HA
    simp only [hz] at ha
    clear ht hz
    generalize N 0 = y at *
    go_enter Ybad.func9, Ybad.ntmps9
    go_wp2_with fail
    go_region
    go_wp2_with fail
    go_ret
    exact ⟨_, rfl, HA.out _ _, below_drewN hb0 _⟩
  · obtain ⟨h, rfl⟩ : ∃ h, k = h + 1 := ⟨k - 1, by omega⟩
    have q2 := ht.pre h (by omega)
    have i0 : (0 : Int) ≤ (h : Int) := by omega
    have i1 : (h : Int) + 1 < 641 := by omega
    have i2 : (h : Int) < 641 := by omega
    rw [Nat.add_sub_cancel] at HA
    simp only [Nat.add_sub_cancel] at ha
    clear ht
    generalize sumTo N h = x at *
    generalize N (h + 1) = y at *
    go_enter Ybad.func9, Ybad.ntmps9
    go_wp2_with fail
    go_region
    go_wp2_with fail
    go_ret
    exact ⟨_, rfl, HA.out _ _, below_drewN hb0 _⟩

theorem order_pos {a : Nat} (h : a < 9007199254740992) : (FloatKind.f64.format.order (R a) 0 == some .gt) = decide (a ≠ 0) := by
  have e := Fl.order_R h (show (0 : Nat) < 9007199254740992 by omega)
  have e' : FloatKind.f64.format.order (R a) 0 = some (compare a 0) := e
  rw [e']
  by_cases h0 : a = 0
  · subst h0; rfl
  · have : compare a 0 = .gt := Nat.compare_eq_gt.2 (by omega)
    rw [this]
    simp [h0]

set_option maxHeartbeats 1600000 in
set_option maxRecDepth 100000 in
theorem tcut_any (b1 b2 n : Nat) (N : Nat → Nat) (w : World) (ht : Tab w b1 b2 N) (hN : ∀ g, g ≤ 640 → N g < 9007199254740992) (hS : ∀ g, g ≤ 640 → sumTo N g < 9007199254740992) :
    Calls Ybad.prog 10 #[.slice (some ⟨b1, 0, none⟩) 641 641, .slice (some ⟨b2, 0, none⟩) 641 641, .float .f64 n] w fun e w' => e = .returned (cutV N n) ∧ Below w.heap.size w w' := by
  go_enter Ybad.func10, Ybad.ntmps10
  go_wp2_with fail
  obtain ⟨w0, hw0⟩ : ∃ w0, w0 = w.alloc (.cells #[.int .i64 0, .float .f64 0] 30) := ⟨_, rfl⟩
  have hc0 : w0.cell? ⟨w.heap.size, 0, none⟩ = some (.int .i64 0) := by rw [hw0]; simp
  have hc1 : w0.cell? ⟨w.heap.size, 1, none⟩ = some (.float .f64 0) := by rw [hw0]; simp
  have hf0 : w0.frozen? ⟨w.heap.size, 0, none⟩ = false := by rw [hw0]; simp
  have hf1 : w0.frozen? ⟨w.heap.size, 1, none⟩ = false := by rw [hw0]; simp
  have hb0 : Below w.heap.size w w0 := by rw [hw0]; exact (Below.refl _ _).alloc (Nat.le_refl _) _
  have hs0 : w.heap.size < w0.heap.size := by rw [hw0]; simp
  have ht0 := ht.below hb0
  rw [← hw0]
  clear hw0
  have HT := hide ht0
  have HB := hide hb0
  have HN := hide hN
  have HSm := hide hS
  have l1 := ht.lt1
  have l2 := ht.lt2
  have hb3 : ∀ W v v', Below w.heap.size w W → Below w.heap.size w ((W.setCell ⟨w.heap.size, 0, none⟩ v).setCell ⟨w.heap.size, 1, none⟩ v') := fun W v v' h => (h.setCell (Nat.le_refl _) _).setCell (Nat.le_refl _) _
  have HB3 := hide hb3
  clear ht ht0 hb0 hN hS hb3
  have HV : Hid (∀ g s, (g, s) = cutR N n 640 1 → (Value.agg #[.int .i64 ((g : Nat) : Int), .float .f64 s]) = cutV N n) := fun g s h => by unfold cutV; rw [← h]
  generalize hRes : cutR N n 640 1 = res at *
  have HR : Hid (cutR N n 640 1 = res) := hRes
  clear hRes
  go_loopw [7] (fun i wr => ∃ h : Nat, h ≤ 640 ∧ i = .int .i64 ((h : Int) + 1) ∧ cutR N n (640 - h) (h + 1) = res ∧ wr = w0) (fun i _ => 700 - (intOf i).toNat)
  case atStart => exact ⟨0, by omega, rfl, HR.out, rfl⟩
  case round =>
    obtain ⟨h, hh, rfl, hres, rfl⟩ := hrel
    by_cases hlt : h < 640
    · have q1 := HT.out.cnt (h + 1) (by omega)
      have q2 := HT.out.pre (h + 1) (by omega)
      have q3 := HT.out.pre h (by omega)
      have hNb := HN.out (h + 1) (by omega)
      have hsm := HSm.out (h + 1) (by omega)
      have hsm1 := HSm.out h (by omega)
      have hun : res = if N (h + 1) ≠ 0 ∧ Ieee.double.order (R (sumTo N (h + 1))) n = some .gt then (h + 1, if sumTo N h = 0 then 4607182418800017408 else qv n (sumTo N h) (N (h + 1))) else cutR N n (640 - (h + 1)) (h + 1 + 1) := by
        rw [← hres, show 640 - h = (640 - (h + 1)) + 1 by omega]
        rfl
      have hop := order_pos hNb
      have hoz := order_zero hsm1
      have i0 : (0 : Int) ≤ (h : Int) := by omega
      have i1 : (h : Int) + 1 < 641 := by omega
      have i2 : (h : Int) + 1 ≤ 640 := by omega
      have i3 : (h : Int) < 641 := by omega
      generalize hX : sumTo N h = X at *
      generalize hZ : sumTo N (h + 1) = Z at *
      generalize hY : N (h + 1) = Y at *
      have HU := hide hun
      clear hun hX hZ hY hres
      by_cases hY0 : Y = 0
      · subst hY0
        rw [decide_eq_false (by simp)] at hop
        go_wp2_with fail
        go_roundw
        case rel =>
          refine ⟨h + 1, by omega, by go_num, ?_, by trivial⟩
          have := unhide HU
          rw [if_neg (by simp)] at this
          exact this.symm
        case measure => simp [intOf]; omega
      · rw [decide_eq_true hY0] at hop
        by_cases hgt : Ieee.double.order (R Z) n = some .gt
        · have hg1 : (FloatKind.f64.format.order (R Z) n == some .gt) = true := by
            show (Ieee.double.order (R Z) n == some .gt) = true
            rw [hgt]; rfl
          have hU := unhide HU
          rw [if_pos ⟨hY0, hgt⟩] at hU
          by_cases hX0 : X = 0
          · rw [if_pos hX0] at hU
            rw [decide_eq_true hX0] at hoz
            have hVV := unhide HV _ _ hU.symm
            rw [show ((h + 1 : Nat) : Int) = (h : Int) + 1 by omega] at hVV
            have HVV := hide hVV
            clear hVV hU HU
            go_wp2_with fail
            refine bodyPost_ret (v := .agg #[.int .i64 ((h : Int) + 1), .float .f64 4607182418800017408]) ?_ rfl ⟨congrArg Ending.returned HVV.out, ?_⟩
            · simp [results, Ybad.results10, go_sem, hc0, hc1]
            · exact unhide HB3 _ _ _ HB.out
          · rw [if_neg hX0] at hU
            rw [decide_eq_false hX0] at hoz
            obtain ⟨qq, hq1, hq2⟩ := qv_valid (b := X) (c := Y) hsm1 hNb hY0 hgt
            have r1 := fun W => run_float_arith (P := Ybad.prog) W .sub 23 .f64 n (R X) qq hq1
            have r2 := fun W => run_float_arith (P := Ybad.prog) W .quo 23 .f64 qq (R Y) _ hq2
            clear hq1 hq2
            generalize qv n X Y = rv at *
            have hVV := unhide HV _ _ hU.symm
            rw [show ((h + 1 : Nat) : Int) = (h : Int) + 1 by omega] at hVV
            have HVV := hide hVV
            clear hVV hU HU
            go_wp2_with fail
            go_region
            go_wp2_with fail
            refine bodyPost_ret (v := .agg #[.int .i64 ((h : Int) + 1), .float .f64 rv]) ?_ rfl ⟨congrArg Ending.returned HVV.out, ?_⟩
            · simp [results, Ybad.results10, go_sem, hc0, hc1]
            · first
                | exact unhide HB3 _ _ _ HB.out.drew
                | exact (unhide HB3 _ _ _ HB.out).drew
        · have hg1 : (FloatKind.f64.format.order (R Z) n == some .gt) = false := by
            show (Ieee.double.order (R Z) n == some .gt) = false
            rw [beq_eq_false_iff_ne]; exact hgt
          go_wp2_with fail
          go_roundw
          case rel =>
            refine ⟨h + 1, by omega, by go_num, ?_, by trivial⟩
            have := unhide HU
            rw [if_neg (fun h => hgt h.2)] at this
            exact this.symm
          case measure => simp [intOf]; omega
    · have : h = 640 := by omega
      subst this
      have hVV := unhide HV _ _ hres
      have HVV := hide hVV
      clear hVV hres
      go_wp2_with fail
      refine (nocut_any _).mono ?_
      rintro e w1 ⟨rfl, hb1⟩
      have d0 := (hb1.cell (p := ⟨w.heap.size, 0, none⟩) hs0).trans hc0
      have d1 := (hb1.cell (p := ⟨w.heap.size, 1, none⟩) hs0).trans hc1
      have g0 := (hb1.frozen (p := ⟨w.heap.size, 0, none⟩) hs0).trans hf0
      have g1 := (hb1.frozen (p := ⟨w.heap.size, 1, none⟩) hs0).trans hf1
      have HB1 : Hid (Below w.heap.size w w1) := HB.out.trans (hb1.mono HB.out.size)
      clear hb1
      go_wp2_with fail
      refine bodyPost_ret (v := .agg #[.int .i64 640, .float .f64 4607182418800017408]) ?_ rfl ⟨congrArg Ending.returned HVV.out, ?_⟩
      · simp [results, Ybad.results10, go_sem, d0, d1]
      · exact unhide HB3 _ _ _ HB1.out

end Go.Proofs.YbulkdjfsDoor
