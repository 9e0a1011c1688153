/-
  sort.Slice at the ring's points, (*Ring).sortPoints (11).
-/
import Derived.Test.YbulkdjggFmtK
import Derived.Test.YbulkdjggFmtM
import Derived.Shelf.GgSortFunc.Tiny
namespace Go.Proofs.YbulkdjggFmt
open Go.Shelf Go.RowKit Go.Lib Go.Sort

noncomputable def ptT : TypeInfo := (Ybaf.prog.info? 34).get (by kernel_rfl)
noncomputable def ptE : TypeInfo := (Ybaf.prog.info? 41).get (by kernel_rfl)
theorem ptK (n : Nat) (h2 : 2 ≤ n) : Lib.swapperK n ptE 25 = 9 := by
  have a : ptE.hasPointers = false := by kernel_rfl
  have b : ptE.bytes = 16 := by kernel_rfl
  have c : (n == 0) = false := by simp; omega
  have d : (n == 1) = false := by simp; omega
  simp [Lib.swapperK, a, b, c, d]

/-- Positions below 2^64, nodes in range. -/
def okP (n : Nat) (x : Pt) : Prop := x.1 < 18446744073709551616 ∧ x.2 < n

theorem ot_grow (S : Nat → Prop) (w : World) (os : Array Obj) : Ot S w (grow w os) :=
  ⟨rfl, rfl, rfl, by simp [grow], fun k hk _ => by simp [grow, Array.getElem?_append, hk]⟩

theorem PCx.ot {b0 b1 R nb n cn blk off size cap : Nat} {W W' : World} {S : Nat → Prop} (h : PCx b0 b1 R nb n cn blk off size cap W) (ho : Ot S W W') (h0 : ¬ S b0) (h1 : ¬ S b1) (h2 : ¬ S R) (h3 : ¬ S nb) : PCx b0 b1 R nb n cn blk off size cap W' :=
  ⟨ho.cellv h.c0 h0, ho.cellv h.c1 h1, ho.cellv h.r0 h2, fun i hi => ho.cellv (h.ns i hi) h3⟩

set_option maxHeartbeats 2000000 in
set_option maxRecDepth 100000 in
theorem slice_points (b0 b1 R nb n cn blk off cap : Nat) (w : World) (hn : n ≤ 4) (hn0 : 0 < n) (d : Array Pt) (hsz : d.size < 4611686018427387904) (hc : PCx b0 b1 R nb n cn blk off d.size cap w) (hr : HoldsK enc 2 w blk off d) (hblk : blk < w.heap.size) (hq : ∀ t, t < d.size → okP n d[t]!)
    (h0 : b0 ≠ blk) (h1 : b1 ≠ blk) (hR : R ≠ blk) (hnb : nb ≠ blk) :
    Calls Ybaf.prog 16 #[.iface 34 (.slice (some ⟨blk, off, none⟩) d.size cap), .func (.func 22) #[] #[.pointer (some ⟨b0, 0, none⟩), .pointer (some ⟨b1, 0, none⟩)]] w fun e w' =>
      e = .returned (.tuple #[]) ∧ ∃ d' : Array Pt, PermIn 0 d.size d d' ∧ SortedIn ltP 0 d.size d' ∧ HoldsK enc 2 w' blk off d' ∧ Ot (fun k => k = blk) w w' := by
  by_cases h2 : 2 ≤ d.size
  · have hB : sliceBound Ybaf.prog 41 ptE 25 (some ⟨blk, off, none⟩) d.size cap = #[.slice (some ⟨blk, off, none⟩) d.size cap, typeHandle Ybaf.prog 41] := by
      unfold sliceBound; rw [if_neg (by rw [ptK _ h2]; omega)]
    have hS := Any.sort_Slice_of_pdq Ybaf.laysGg6 34 41 ptT ptE (by kernel_rfl) (by kernel_rfl) (by kernel_rfl) (by kernel_rfl) 25 (fun _ => by kernel_rfl) (some ⟨blk, off, none⟩) d.size cap hsz 41 (by rw [ptK _ h2]; kernel_rfl) (.func 22) #[] #[.pointer (some ⟨b0, 0, none⟩), .pointer (some ⟨b1, 0, none⟩)] w
      (fun w' => ∃ d' : Array Pt, PermIn 0 d.size d d' ∧ SortedIn ltP 0 d.size d' ∧ HoldsK enc 2 w' blk off d' ∧ Ot (fun k => k = blk) w w')
    refine hS ?_
    clear hS
    rw [hB]
    have ho : Ot (fun _ => False) w (sliceWorld Ybaf.prog Ybaf.laysGg6_ren 34 (some ⟨blk, off, none⟩) d.size cap w) := ((Ot.refl _ _).alloc _).alloc _
    generalize sliceWorld Ybaf.prog Ybaf.laysGg6_ren 34 (some ⟨blk, off, none⟩) d.size cap w = W0 at ho
    have hsz0 := ho.size
    have l0 : b0 < w.heap.size := World.block_lt_of_cell? _ _ hc.c0
    have l1 : b1 < w.heap.size := World.block_lt_of_cell? _ _ hc.c1
    have l2 : R < w.heap.size := World.block_lt_of_cell? _ _ hc.r0
    have l3 : nb < w.heap.size := World.block_lt_of_cell? _ _ (hc.ns 0 hn0)
    have hSrt : Srt blk off d.size W0.heap.size ltP (.pointer (some ⟨b0, 0, none⟩)) (.pointer (some ⟨b1, 0, none⟩)) 41 (.slice (some ⟨blk, off, none⟩) d.size cap) (typeHandle Ybaf.prog 41) ⟨PCx b0 b1 R nb n cn blk off d.size cap, okP n⟩ := by
      refine ⟨fun W W' h1' ho' => ?_, fun W d1 i j h1' h2' h3' h4' h5' h6' => ?_, ?_, hsz, by omega⟩
      · exact PCx.ot h1' ho' (by omega) (by omega) (by omega) (by omega)
      · exact less_at b0 b1 R nb n cn blk off d.size cap W hn h1' d1 i j h2' h3' (fun t ht => (h4' t ht).2) h5' h6'
      · exact swapSwapsK_of_literal false 41 (fun args W => run_callFunc_extern Ybaf.func41 (by kernel_rfl) (by kernel_rfl) (by kernel_rfl) (e := Extern.ReflectliteSwapper.swap false) (by kernel_rfl) args W) 41 ptE (by kernel_rfl) enc 2 enc_len (by kernel_rfl) (fun _ => by kernel_rfl)
          (fun x v hv => by simp [enc] at hv; rcases hv with rfl | rfl <;> rfl) blk off d.size cap
    have hSv : Sv blk off d.size W0.heap.size ⟨PCx b0 b1 R nb n cn blk off d.size cap, okP n⟩ W0 d :=
      ⟨hc.ot ho (fun h => h) (fun h => h) (fun h => h) (fun h => h), holds_ot hr ho (fun h => h), rfl, Nat.le_refl _, hq⟩
    have hlim : Lib.bitLen d.size < 4611686018427387904 := Nat.lt_of_le_of_lt (Lib.bitLen_le d.size 62 (by omega) (by omega)) (by omega)
    refine (pdq_any ltP_swo hSrt (d.size + 1) 0 d.size (Lib.bitLen d.size) d W0 (by omega) hSv (Nat.zero_le _) (Nat.le_refl _) hlim (Or.inl rfl)).mono ?_
    rintro e w' ⟨rfl, hv, ho'⟩
    obtain ⟨hp, hs⟩ := pdq_sorts ltP ltP_swo d 0 d.size (Lib.bitLen d.size) true true (Nat.zero_le _) (Nat.le_refl _) (Or.inl rfl)
    exact ⟨rfl, _, hp, hs, hv.row, (ho.mono (fun _ h _ => h.elim)).trans ho'⟩
  · have hK : Lib.swapperK d.size ptE 25 = d.size + 1 := by
      rcases Nat.eq_zero_or_pos d.size with h | h
      · rw [h]; simp [Lib.swapperK]
      · rw [show d.size = 1 by omega]; simp [Lib.swapperK]
    refine (Any.sort_Slice_tiny Ybaf.laysGg6 34 41 ptT ptE (by kernel_rfl) (by kernel_rfl) (by kernel_rfl) (by kernel_rfl) 25 (fun _ => by kernel_rfl) (some ⟨blk, off, none⟩) d.size cap (by omega) (33 + d.size) (by
      rw [hK]
      rcases Nat.eq_zero_or_pos d.size with h | h
      · rw [h]; kernel_rfl
      · rw [show d.size = 1 by omega]; kernel_rfl) (.func 22) #[] _ w).mono ?_
    rintro e w' ⟨rfl, os, rfl⟩
    exact ⟨rfl, d, permIn_refl d _ _, fun i j _ hij hj => by omega, holds_ot hr (ot_grow (fun _ => False) w os) (fun h => h), ot_grow _ w os⟩

set_option maxHeartbeats 1000000 in
set_option maxRecDepth 100000 in
theorem sortPoints_at (R nb n cn blk cap : Nat) (w : World) (hn : n ≤ 4) (hn0 : 0 < n) (d : Array Pt) (hsz : d.size < 4611686018427387904) (h0 : w.cell? ⟨R, 0, none⟩ = some (.slice (some ⟨nb, 0, none⟩) n cn)) (hns : ∀ i, i < n → w.cell? ⟨nb, i, none⟩ = some (.string (nm i)))
    (hr : HoldsK enc 2 w blk 0 d) (hblk : blk < w.heap.size) (hq : ∀ t, t < d.size → okP n d[t]!) (hR : R ≠ blk) (hnb : nb ≠ blk) :
    Calls Ybaf.prog 11 #[.pointer (some ⟨R, 0, none⟩), .slice (some ⟨blk, 0, none⟩) d.size cap] w fun e w' =>
      e = .returned (.tuple #[]) ∧ ∃ d' : Array Pt, PermIn 0 d.size d d' ∧ SortedIn ltP 0 d.size d' ∧ HoldsK enc 2 w' blk 0 d' ∧ Ot (fun k => k = blk) w w' := by
  have ho : Ot (fun _ => False) w ((w.alloc (.cells #[.pointer (some ⟨R, 0, none⟩)] 29)).alloc (.cells #[.slice (some ⟨blk, 0, none⟩) d.size cap] 34)) := ((Ot.refl _ _).alloc _).alloc _
  have hc := slice_points w.heap.size (w.heap.size + 1) R nb n cn blk 0 cap ((w.alloc (.cells #[.pointer (some ⟨R, 0, none⟩)] 29)).alloc (.cells #[.slice (some ⟨blk, 0, none⟩) d.size cap] 34)) hn hn0 d hsz
    ⟨by simp, by simp, ho.cellv h0 (fun h => h), fun i hi => ho.cellv (hns i hi) (fun h => h)⟩ (holds_ot hr ho (fun h => h)) (by simp; omega) hq (by omega) (by omega) hR hnb
  have HO := hide ho
  clear ho hr hns h0
  go_enter Ybaf.func11, Ybaf.ntmps11
  go_wp2_with (go_at_call 16; refine hc.mono ?_; rintro e w' ⟨rfl, d', h1, h2, h3, h4⟩)
  go_end0
  exact ⟨rfl, d', h1, h2, h3, (HO.out.mono (fun _ h _ => h.elim)).trans h4⟩

end Go.Proofs.YbulkdjggFmt
