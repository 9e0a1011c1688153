import Derived.Test.YbulkdjfsDoorJ
import Derived.Test.YbulkdjfsDoorN
import Derived.Laws.MakeOwn
namespace Go.Proofs.YbulkdjfsDoor
open Go.RowKit
open Fl (R Out Nan Same)
attribute [local go_sem] run_store_flt

/-- The tables: each group's count and the sums. -/
structure Tab (w : World) (b1 b2 : Nat) (N : Nat → Nat) : Prop where
  lt1 : b1 < w.heap.size
  lt2 : b2 < w.heap.size
  cnt : ∀ g, g ≤ 640 → w.cell? ⟨b1, g, none⟩ = some (.float .f64 (R (N g)))
  pre : ∀ g, g ≤ 640 → w.cell? ⟨b2, g, none⟩ = some (.float .f64 (R (sumTo N g)))

theorem Tab.below {w w' : World} {b1 b2 : Nat} {N : Nat → Nat} (h : Tab w b1 b2 N) (hb : Below w.heap.size w w') : Tab w' b1 b2 N :=
  ⟨Nat.lt_of_lt_of_le h.lt1 hb.size, Nat.lt_of_lt_of_le h.lt2 hb.size, fun g hg => (hb.cell (p := ⟨b1, g, none⟩) h.lt1).trans (h.cnt g hg), fun g hg => (hb.cell (p := ⟨b2, g, none⟩) h.lt2).trans (h.pre g hg)⟩

theorem make46 : ∃ Z : Array Value, Z.size = 641 ∧ (∀ i, i < 641 → Z[i]? = some (.float .f64 0)) ∧ ∀ W : World, (Instr.makeSlice 46 (.int .i64 641) (.int .i64 641)).run Ybad.prog W = .ok (.slice (some ⟨W.heap.size, 0, none⟩) 641 641) (W.alloc (.cells Z 23)) := by
  refine ⟨madeCells #[.float .f64 0] 641, size_madeCells _ _, fun i hi => ?_, fun W => ?_⟩
  · rw [Array.getElem?_eq_getElem (by rw [size_madeCells]; exact hi)]
    simp [madeCells, Nat.mod_one]
  · have hq : ∃ i, Ybad.prog.info? 23 = some i ∧ i.zero = some (.float .f64 0) ∧ i.size = 1 ∧ i.bytes = 8 := ⟨Ybad.t23, by kernel_rfl, by kernel_rfl, by kernel_rfl, by kernel_rfl⟩
    obtain ⟨i, h1, h2, h3, h4⟩ := hq
    have := run_makeSlice (P := Ybad.prog) W 46 23 i _ Ybad.underlying46 h1 h2 .i64 .i64 641 641 (by omega) (by omega) (by rw [h3]; decide) (by rw [h4]; decide) (by omega)
    rw [h3] at this
    exact this

/-- The tables while they are filled. -/
structure Tb (w wr : World) (C1 C2 : Array Value) : Prop where
  k1 : wr.heap[w.heap.size]? = some (.cells C1 23 (0, 0))
  k2 : wr.heap[w.heap.size + 1]? = some (.cells C2 23 (0, 0))
  s1 : C1.size = 641
  s2 : C2.size = 641
  below : Below w.heap.size w wr

theorem Tb.set1 {w wr : World} {C1 C2 : Array Value} (h : Tb w wr C1 C2) (q : Nat) (v : Value) : Tb w (wr.setCell ⟨w.heap.size, q, none⟩ v) (C1.setIfInBounds q v) C2 :=
  ⟨heap_setCell_same _ _ _ _ _ _ h.k1, (heap_setCell_other _ _ _ _ (by simp)).trans h.k2, by simpa using h.s1, h.s2, h.below.setCell (p := ⟨w.heap.size, q, none⟩) (Nat.le_refl _) v⟩
theorem Tb.set2 {w wr : World} {C1 C2 : Array Value} (h : Tb w wr C1 C2) (q : Nat) (v : Value) : Tb w (wr.setCell ⟨w.heap.size + 1, q, none⟩ v) C1 (C2.setIfInBounds q v) :=
  ⟨(heap_setCell_other _ _ _ _ (by simp)).trans h.k1, heap_setCell_same _ _ _ _ _ _ h.k2, h.s1, by simpa using h.s2, h.below.setCell (p := ⟨w.heap.size + 1, q, none⟩) (by simp) v⟩
theorem Tb.drew {w wr : World} {C1 C2 : Array Value} (h : Tb w wr C1 C2) : Tb w wr.drew C1 C2 := ⟨h.k1, h.k2, h.s1, h.s2, h.below.drew⟩
theorem Tb.drewN {w wr : World} {C1 C2 : Array Value} (h : Tb w wr C1 C2) (n : Nat) : Tb w (wr.drewN n) C1 C2 := ⟨h.k1, h.k2, h.s1, h.s2, below_drewN h.below n⟩

theorem fill_next {C : Array Value} {F : Nat → Nat} {g : Nat} (hs : C.size = 641) (hg : g < 641) (h : ∀ j, j < g → C[j]? = some (.float .f64 (F j))) (x : Nat) (hx : x = F g) : ∀ j, j < g + 1 → (C.setIfInBounds g (.float .f64 x))[j]? = some (.float .f64 (F j)) := by
  intro j hj
  subst hx
  rw [Array.getElem?_setIfInBounds]
  by_cases e : g = j
  · subst e
    rw [if_pos rfl, if_pos (by omega)]
  · rw [if_neg e]; exact h j (by omega)

set_option maxHeartbeats 1600000 in
set_option maxRecDepth 100000 in
theorem tables_any (B o : Nat) (cu pr : Nat → Nat) (w : World) (hd : Dem w B o cu pr) (hB : B < w.heap.size) :
    Calls Ybad.prog 8 #[.pointer (some ⟨B, o, none⟩)] w fun e w' =>
      ∃ b1 b2, e = .returned (.tuple #[.slice (some ⟨b1, 0, none⟩) 641 641, .slice (some ⟨b2, 0, none⟩) 641 641]) ∧ Tab w' b1 b2 (fun g => cu g + pr g) ∧ Below w.heap.size w w' := by
  obtain ⟨Z, hZs, hZ, hmk⟩ := make46
  have HD := hide hd
  have HZ := hide hZ
  clear hd hZ
  go_enter Ybad.func8, Ybad.ntmps8
  have hT : Tb w ((w.alloc (.cells Z 23)).alloc (.cells Z 23)) Z Z := by
    refine ⟨?_, ?_, hZs, hZs, ((Below.refl _ _).alloc (Nat.le_refl _) _).alloc (by simp) _⟩
    · rw [heap_alloc_old _ _ (by simp)]; exact heap_alloc_new _ _
    · have := heap_alloc_new (w.alloc (.cells Z 23)) (.cells Z 23); simpa using this
  have HT := hide hT
  clear hT
  go_upto_block 0 with (fail)
  go_cut [6] (fun i wr => ∃ C1, Tb w wr C1 Z ∧ ∀ j, j < 641 → C1[j]? = some (.float .f64 (R (cu j + pr j))))
  case first =>
    go_wp2_with fail
    go_loopw [6] (fun i wr => ∃ g : Nat, g ≤ 641 ∧ i = .int .i64 g ∧ ∃ C1, Tb w wr C1 Z ∧ ∀ j, j < g → C1[j]? = some (.float .f64 (R (cu j + pr j)))) (fun i _ => 700 - (intOf i).toNat)
    case atStart => exact ⟨0, by omega, rfl, Z, HT.out, fun j hj => by omega⟩
    case round =>
      obtain ⟨g, hg, rfl, C1, hC, hfill⟩ := hrel
      by_cases hlt : g < 641
      · have hd' := HD.out.below hB hC.below
        have q1 := hd'.cur g (by omega)
        have q2 := hd'.prev g (by omega)
        have b1 := hd'.bcur g
        have b2 := hd'.bprev g
        have HFi : Hid (∀ z, z = R (cu g + pr g) → ∀ j, j < g + 1 → (C1.setIfInBounds g (.float .f64 z))[j]? = some (.float .f64 (R (cu j + pr j)))) := fun z hz => fill_next (F := fun j => R (cu j + pr j)) hC.s1 hlt hfill z hz
        generalize hx : cu g = x at *
        generalize hy : pr g = y at *
        have e1 := ofInt_R x (by omega)
        have e2 := ofInt_R y (by omega)
        have e3 := run_add_R x y (by omega)
        have i0 : (0 : Int) ≤ (g : Int) := by omega
        have i1 : (g : Int) < 641 := by omega
        have i2 : (g : Int) ≤ 640 := by omega
        obtain ⟨v, hv⟩ : ∃ v, C1[g]? = some v := ⟨_, Array.getElem?_eq_getElem (by rw [hC.s1]; exact hlt)⟩
        have cc : wr.cell? ⟨w.heap.size, g, none⟩ = some v := (Lib.cell_of_heap hC.k1 g).trans hv
        have ff : wr.frozen? ⟨w.heap.size, g, none⟩ = false := Lib.frozen_of_heap hC.k1 g
        have HC := hide hC
        clear hC hfill hd' hv hx hy
        go_wp2_with fail
        go_region
        go_wp2_with fail
        go_roundw
        case rel => exact ⟨g + 1, by omega, by go_num, _, (HC.out.set1 g _).drew, unhide HFi _ rfl⟩
        case measure => simp [intOf]; omega
      · have : g = 641 := by omega
        subst this
        have HC := hide hC
        have HFi := hide hfill
        clear hC hfill
        go_wp2_with fail
        go_meet
        exact ⟨C1, HC.out, HFi.out⟩
  case rest =>
    obtain ⟨C1, hC1, hf1⟩ := hcut
    have HC1 := hide hC1
    have HF1 := hide hf1
    clear hC1 hf1 HT
    go_upto_block 2 with (fail)
    go_cut [7] (fun i wr => ∃ C2, Tb w wr C1 C2 ∧ ∀ j, j < 641 → C2[j]? = some (.float .f64 (R (sumTo (fun g => cu g + pr g) j))))
    case first =>
      go_wp2_with fail
      go_loopw [7] (fun i wr => ∃ h : Nat, h ≤ 640 ∧ i = .int .i64 ((h : Int) + 1) ∧ ∃ C2, Tb w wr C1 C2 ∧ ∀ j, j < h + 1 → C2[j]? = some (.float .f64 (R (sumTo (fun g => cu g + pr g) j)))) (fun i _ => 700 - (intOf i).toNat)
      case atStart => exact ⟨0, by omega, rfl, Z, HC1.out, fun j hj => by
        have : j = 0 := by omega
        subst this
        exact HZ.out 0 (by omega)⟩
      case round =>
        obtain ⟨h, hh, rfl, C2, hC, hfill⟩ := hrel
        by_cases hlt : h < 640
        · have q1 : wr.cell? ⟨w.heap.size, h + 1, none⟩ = some (.float .f64 (R (cu (h + 1) + pr (h + 1)))) := (Lib.cell_of_heap hC.k1 (h + 1)).trans (HF1.out (h + 1) (by omega))
          have q2 : wr.cell? ⟨w.heap.size + 1, h, none⟩ = some (.float .f64 (R (sumTo (fun g => cu g + pr g) h))) := (Lib.cell_of_heap hC.k2 h).trans (hfill h (by omega))
          have hst : sumTo (fun g => cu g + pr g) (h + 1) = sumTo (fun g => cu g + pr g) h + (cu (h + 1) + pr (h + 1)) := rfl
          have hsm := HD.out.small (h + 1) (by omega)
          have HFi : Hid (∀ z, z = R (sumTo (fun g => cu g + pr g) (h + 1)) → ∀ j, j < h + 1 + 1 → (C2.setIfInBounds (h + 1) (.float .f64 z))[j]? = some (.float .f64 (R (sumTo (fun g => cu g + pr g) j)))) := fun z hz => fill_next (F := fun j => R (sumTo (fun g => cu g + pr g) j)) hC.s2 (by omega) hfill z hz
          have HST : Hid (sumTo (fun g => cu g + pr g) (h + 1) = sumTo (fun g => cu g + pr g) h + (cu (h + 1) + pr (h + 1))) := hst
          generalize hx : sumTo (fun g => cu g + pr g) h = x at *
          generalize hy : cu (h + 1) + pr (h + 1) = y at *
          have e3 := run_add_R x y (by omega)
          have i0 : (0 : Int) ≤ (h : Int) := by omega
          have i1 : (h : Int) + 1 < 641 := by omega
          have i2 : (h : Int) + 1 ≤ 640 := by omega
          have i3 : (h : Int) < 641 := by omega
          obtain ⟨v, hv⟩ : ∃ v, C2[h + 1]? = some v := ⟨_, Array.getElem?_eq_getElem (by rw [hC.s2]; omega)⟩
          have cc : wr.cell? ⟨w.heap.size + 1, h + 1, none⟩ = some v := (Lib.cell_of_heap hC.k2 (h + 1)).trans hv
          have ff : wr.frozen? ⟨w.heap.size + 1, h + 1, none⟩ = false := Lib.frozen_of_heap hC.k2 (h + 1)
          have HC := hide hC
          clear hC hfill hv hx hy hst hsm
          go_wp2_with fail
          go_region
          go_wp2_with fail
          go_roundw
          case rel => exact ⟨h + 1, by omega, by go_num, _, (HC.out.set2 (h + 1) _).drew, unhide HFi _ (by rw [HST.out])⟩
          case measure => simp [intOf]; omega
        · have : h = 640 := by omega
          subst this
          have HC := hide hC
          have HFi := hide hfill
          clear hC hfill
          go_wp2_with fail
          go_meet
          exact ⟨C2, HC.out, HFi.out⟩
    case rest =>
      obtain ⟨C2, hC2, hf2⟩ := hcut
      have HC2 := hide hC2
      have HF2 := hide hf2
      clear hC2 hf2 HC1
      go_wp2_with fail
      go_ret2
      have l1 : w.heap.size + 1 < wc.heap.size := (Array.getElem?_eq_some_iff.1 HC2.out.k2).1
      exact ⟨w.heap.size, w.heap.size + 1, rfl, ⟨by omega, l1, fun g hg => (Lib.cell_of_heap HC2.out.k1 g).trans (HF1.out g (by omega)), fun g hg => (Lib.cell_of_heap HC2.out.k2 g).trans (HF2.out g (by omega))⟩, HC2.out.below⟩

end Go.Proofs.YbulkdjfsDoor
