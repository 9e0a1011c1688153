import Derived.Test.YbulkdjfsDoorH
namespace Go.Proofs.YbulkdjfsDoor
open Go.RowKit
open Fl (R Out Nan Same)
attribute [local go_sem] run_store_flt

theorem bits_run (a : Nat) (w : World) : (callFunc 25 #[.float .f64 a]).run Ybad.prog w = .ok (.value (.int .u64 a)) w := by kernel_rfl

set_option maxHeartbeats 400000 in
theorem feq_same (a : Nat) (w : World) : Calls Ybad.prog 17 #[.float .f64 a, .float .f64 a] w fun e w' => e = .returned (.bool true) ∧ w' = w := by
  have h1 := bits_run a w
  go_enter Ybad.func17, Ybad.ntmps17
  go_wp2_with fail
  go_ret
  exact ⟨by simp, rfl⟩

set_option maxHeartbeats 400000 in
theorem ceq_same (k s : Nat) (w : World) : Calls Ybad.prog 14 #[.agg #[.int .i64 k, .float .f64 s], .agg #[.int .i64 k, .float .f64 s]] w fun e w' => e = .returned (.bool true) ∧ Below w.heap.size w w' := by
  go_enter Ybad.func14, Ybad.ntmps14
  go_wp2_with fail
  refine (feq_same s _).mono ?_
  rintro e w' ⟨rfl, rfl⟩
  go_wp2_with fail
  go_ret
  exact ⟨by simp, ((Below.refl _ _).alloc (Nat.le_refl _) _).alloc (by simp) _⟩

/-- A shedder newly made, as the walks of its methods want it. -/
def cuOf (C : Array Value) (o g : Nat) : Nat := (intOf (C.getD (o + g) undef)).toNat

theorem cuOf_lt {C : Array Value} {ta tb : Int} (h : DemOK C ta tb) (o g : Nat) (ho : 3 ≤ o) : cuOf C o g < 4294967296 := by
  unfold cuOf
  by_cases hg : o + g < 1289
  · obtain ⟨x, hx, e⟩ := h.u32 (o + g) (by omega) hg
    rw [Array.getD_eq_getD_getElem?, e]
    simp [intOf]
    exact hx
  · rw [Array.getD_eq_getD_getElem?, Array.getElem?_eq_none (by rw [h.size]; omega)]
    simp [intOf, undef]

theorem cuOf_cell {C : Array Value} {ta tb : Int} (h : DemOK C ta tb) (o g : Nat) (ho : 3 ≤ o) (hg : o + g < 1289) : C[o + g]? = some (.int .u32 (cuOf C o g)) := by
  obtain ⟨x, hx, e⟩ := h.u32 (o + g) (by omega) hg
  unfold cuOf
  rw [Array.getD_eq_getD_getElem?, e]
  simp [intOf]

theorem Made.cell {w w' : World} {B : Nat} {D C : Array Value} {k s : Nat} {mf : Int} {k3 s3 k5 s5 cr : Nat} {lf lm lt ta tb : Int} (h : Made w w' B D C k s mf k3 s3 k5 s5 cr lf lm lt ta tb) (q : Nat) : w'.cell? ⟨B, q, none⟩ = D[q]? := Lib.cell_of_heap h.blk q
theorem Made.frozen {w w' : World} {B : Nat} {D C : Array Value} {k s : Nat} {mf : Int} {k3 s3 k5 s5 cr : Nat} {lf lm lt ta tb : Int} (h : Made w w' B D C k s mf k3 s3 k5 s5 cr lf lm lt ta tb) (q : Nat) : w'.frozen? ⟨B, q, none⟩ = false := Lib.frozen_of_heap h.blk q
theorem Made.lt {w w' : World} {B : Nat} {D C : Array Value} {k s : Nat} {mf : Int} {k3 s3 k5 s5 cr : Nat} {lf lm lt ta tb : Int} (h : Made w w' B D C k s mf k3 s3 k5 s5 cr lf lm lt ta tb) : B < w'.heap.size := by
  have := h.blk
  rw [Array.getElem?_eq_some_iff] at this
  exact this.1

theorem Made.shd {w w' : World} {B : Nat} {D C : Array Value} {k s : Nat} {mf : Int} {k3 s3 k5 s5 cr : Nat} {lf lm lt ta tb : Int} (h : Made w w' B D C k s mf k3 s3 k5 s5 cr lf lm lt ta tb) (h0 : 0 < w.heap.size) : Shd w' B where
  pos := Nat.lt_of_lt_of_le h0 h.new
  lt := h.lt
  some := fun q hq => by rw [h.cell]; exact ⟨_, Array.getElem?_eq_getElem (by rw [h.sh.size]; omega)⟩
  free := h.frozen

theorem Made.dem {w w' : World} {B : Nat} {D C : Array Value} {k s : Nat} {mf : Int} {k3 s3 k5 s5 cr : Nat} {lf lm lt ta tb : Int} (h : Made w w' B D C k s mf k3 s3 k5 s5 cr lf lm lt ta tb) : Dem w' B 15 (cuOf C 3) (cuOf C 646) where
  cur := fun g hg => by rw [h.cell, show 15 + 3 + g = 15 + (3 + g) by omega, h.sh.dr]; exact cuOf_cell h.sh.ok 3 g (by omega) (by omega)
  prev := fun g hg => by rw [h.cell, show 15 + 646 + g = 15 + (646 + g) by omega, h.sh.dr]; exact cuOf_cell h.sh.ok 646 g (by omega) (by omega)
  bcur := fun g => cuOf_lt h.sh.ok 3 g (by omega)
  bprev := fun g => cuOf_lt h.sh.ok 646 g (by omega)

/-- What 'probeStarted' leaves of a shedder, as far as 'probeEnded' asks. -/
theorem Started.keeps {w w' : World} {B k s : Nat} {ta tb old lim : Int} {N : Nat → Nat} (h : Started w w' B k s ta tb old lim N) :
    w.grownBy w' (some B) ∧ (∀ q, w'.frozen? ⟨B, q, none⟩ = w.frozen? ⟨B, q, none⟩) ∧ w'.cell? ⟨B, 5, none⟩ = some (.int .i64 k) ∧ w'.cell? ⟨B, 6, none⟩ = some (.float .f64 s) ∧ ∀ q, 15 ≤ q → w'.cell? ⟨B, q, none⟩ = w.cell? ⟨B, q, none⟩ := by
  rcases h with ⟨_, h⟩ | ⟨_, w1, fa, r, n, mv, h1, _, _, _, _, h2⟩
  · exact ⟨h.grown, h.free, h.c5, h.c6, fun q hq => h.rest q (by omega) (by omega)⟩
  · refine ⟨h1.grown.trans h2.grown, fun q => (h2.free q).trans (h1.free q), ?_, ?_, fun q hq => ?_⟩
    · rw [h2.rest 5 (by simp)]; exact h1.c5
    · rw [h2.rest 6 (by simp)]; exact h1.c6
    · rw [h2.rest q (by simp; omega)]; exact h1.rest q (by omega) (by omega)

end Go.Proofs.YbulkdjfsDoor
