import Derived.Test.YbulkdjfsDoorP
namespace Go.Proofs.YbulkdjfsDoor
open Go.RowKit
open Fl (R Out Nan Same)
attribute [local go_sem] run_store_flt

theorem z43_run (w : World) : (zeroValue 43).run Ybad.prog w = .ok (.agg (Ybad.t43.zero.getD undef).cells) w := by kernel_rfl
theorem zero43r : ∃ Z : Array Value, (∀ w, (zeroValue 43).run Ybad.prog w = .ok (.agg Z) w) ∧ Z.size = 1304 := ⟨_, z43_run, z43_size⟩
theorem hu43 : Ybad.prog.underlying 43 = some (Ybad.prog.underlying 43).get! := by kernel_rfl

theorem setCells_blk (b : Nat) : ∀ (vs : List Value) (o : Nat) (w : World) (C : Array Value) (t : TypeId), w.heap[b]? = some (.cells C t (0, 0)) → ∃ C' : Array Value, (w.setCells b o vs).heap[b]? = some (.cells C' t (0, 0)) ∧ C'.size = C.size
  | [], _, _, C, _, h => ⟨C, h, rfl⟩
  | v :: vs, o, w, C, t, h => by
    obtain ⟨C', h1, h2⟩ := setCells_blk b vs (o + 1) (w.setCell ⟨b, o, none⟩ v) _ t (heap_setCell_same w b o C t v h)
    exact ⟨C', h1, by rw [h2]; simp⟩

theorem setCells_below (b : Nat) : ∀ (vs : List Value) (o : Nat) (w : World), Below b w (w.setCells b o vs) ∧ (w.setCells b o vs).heap.size = w.heap.size
  | [], _, w => ⟨Below.refl _ _, rfl⟩
  | v :: vs, o, w => by
    obtain ⟨h1, h2⟩ := setCells_below b vs (o + 1) (w.setCell ⟨b, o, none⟩ v)
    exact ⟨((Below.refl b w).setCell (p := ⟨b, o, none⟩) (Nat.le_refl _) v).trans h1, by rw [World.setCells, h2]; simp⟩

theorem setCells_all {w : World} {b : Nat} {Z D : Array Value} {t : TypeId} (hz : w.heap[b]? = some (.cells Z t (0, 0))) (hs : Z.size = D.size) : (w.setCells b 0 D.toList).heap[b]? = some (.cells D t (0, 0)) := by
  obtain ⟨C', h1, h2⟩ := setCells_blk b D.toList 0 w Z t hz
  have e : C' = D := by
    apply Array.ext_getElem?
    intro i
    by_cases hi : i < D.size
    · have := World.rangeAt_setCells_same w b 0 D.toList (fun j hj => ⟨by rw [Nat.zero_add, Lib.cell_of_heap hz, Array.getElem?_eq_getElem (by simp at hj; omega)]; rfl, Lib.frozen_of_heap hz _⟩) i D[i] (by simp [hi])
      rw [Nat.zero_add, Lib.cell_of_heap h1] at this
      rw [this, Array.getElem?_eq_getElem hi]
    · rw [Array.getElem?_eq_none (by omega), Array.getElem?_eq_none (by omega)]
  rw [h1, e]

/-- A shedder read whole. -/
theorem wpList_load43 {ops : Array Oper} {rest : List Oper} {op : Oper} {a : Act} {w : World} {Q : Exit → Act → World → Prop} {x : Operand} (hgd : op.guard = none) (ho : op.op = .load 43 x) (b : Nat) (hx : a.eval x = .pointer (some ⟨b, 0, none⟩)) (D : Array Value) (hD : D.size = 1304)
    (hr : w.heap[b]? = some (.cells D 43 (0, 0))) (h : wpList Ybad.prog ops Q rest (a.put op.dst (.agg D)) w) : wpList Ybad.prog ops Q (op :: rest) a w := by
  have hl : D.toList.length = 1304 := by simpa using hD
  refine wpList_load_mid (P := Ybad.prog) hgd 43 x ho b 0 hx D.toList _ (fun j v hv => ?_) hu43 (by kernel_rfl) (by rw [hl]; kernel_rfl) (by simpa using h)
  rw [Lib.cell_of_heap hr, Nat.zero_add]
  simpa using hv

/-- A shedder stored whole into a new variable. -/
theorem wpList_store43 {ops : Array Oper} {rest : List Oper} {op : Oper} {a : Act} {w : World} {Q : Exit → Act → World → Prop} {x y : Operand} (hgd : op.guard = none) (ho : op.op = .store 43 x y) (b : Nat) (hx : a.eval x = .pointer (some ⟨b, 0, none⟩)) (D Z : Array Value) (hy : a.eval y = .agg D)
    (hD : D.size = 1304) (hZ : Z.size = 1304) (hone : ∀ v ∈ D.toList, v.oneCell' = true) (hr : w.heap[b]? = some (.cells Z 43 (0, 0)))
    (h : ∀ w', w'.heap[b]? = some (.cells D 43 (0, 0)) → Below b w w' → w'.heap.size = w.heap.size → wpList Ybad.prog ops Q rest (a.put op.dst undef) w') : wpList Ybad.prog ops Q (op :: rest) a w := by
  have hth : w.there b 0 D.size := fun j hj => ⟨by rw [Nat.zero_add, Lib.cell_of_heap hr, Array.getElem?_eq_getElem (by omega)]; rfl, Lib.frozen_of_heap hr _⟩
  obtain ⟨h1, h2⟩ := setCells_below b D.toList 0 w
  exact wpList_store_mid (P := Ybad.prog) hgd 43 x y ho b 0 D hx hy hth (by rw [hD]; kernel_rfl) (by have := all_oneCell_toArray hone; simpa using this) (h _ (setCells_all hr (by omega)) h1 h2)

theorem Sh.one {D C : Array Value} {k s : Nat} {mf : Int} {k3 s3 k5 s5 cr : Nat} {lf lm lt ta tb : Int} (h : Sh D C k s mf k3 s3 k5 s5 cr lf lm lt ta tb) : ∀ v ∈ D.toList, v.oneCell' = true := by
  intro v hv
  obtain ⟨i, hi, e⟩ := List.getElem_of_mem hv
  have hi' : i < 1304 := by simpa [h.size] using hi
  have e' : D[i]? = some v := by
    rw [← Array.getElem?_toList, List.getElem?_eq_getElem hi, e]
  have one : ∀ {x : Value}, D[i]? = some x → x.oneCell' = true → v.oneCell' = true := fun h1 h2 => by
    rw [e'] at h1
    cases h1
    exact h2
  by_cases hlt : i < 15
  · match i, hlt with
    | 0, _ => exact one h.d0 rfl
    | 1, _ => exact one h.d1 rfl
    | 2, _ => exact one h.d2 rfl
    | 3, _ => exact one h.d3 rfl
    | 4, _ => exact one h.d4 rfl
    | 5, _ => exact one h.d5 rfl
    | 6, _ => exact one h.d6 rfl
    | 7, _ => exact one h.d7 rfl
    | 8, _ => exact one h.d8 rfl
    | 9, _ => exact one h.d9 rfl
    | 10, _ => exact one h.d10 rfl
    | 11, _ => exact one h.d11 rfl
    | 12, _ => exact one h.d12 rfl
    | 13, _ => exact one h.d13 rfl
    | 14, _ => exact one h.d14 rfl
  · obtain ⟨j, rfl⟩ : ∃ j, i = 15 + j := ⟨i - 15, by omega⟩
    rw [h.dr] at e'
    have one' : ∀ {x : Value}, C[j]? = some x → x.oneCell' = true → v.oneCell' = true := fun h1 h2 => by
      rw [e'] at h1
      cases h1
      exact h2
    match j, (show j < 1289 by omega) with
    | 0, _ => exact one' h.ok.c0 rfl
    | 1, _ => exact one' h.ok.c1 rfl
    | 2, _ => exact one' h.ok.c2 rfl
    | j + 3, hj =>
      obtain ⟨x, _, hx⟩ := h.ok.u32 (j + 3) (by omega) hj
      exact one' hx rfl

end Go.Proofs.YbulkdjfsDoor
