/-
  THE FRAME 'all but the blocks of S stands' (Ot), AND THE RANGE OVER A MAP's BLOCK.
-/
import Derived.Test.YbulkdjcmD
namespace Go.Proofs.Ybulkdjcm
open Go.RowKit Go.ChangeMaps

/-- Of the blocks of w, all but those of S stand in w'. -/
structure Ot (S : Nat → Prop) (w w' : World) : Prop where
  os : w'.os = w.os
  tape : w'.tape = w.tape
  output : w'.output = w.output
  size : w.heap.size ≤ w'.heap.size
  block : ∀ k, k < w.heap.size → ¬ S k → w'.heap[k]? = w.heap[k]?

section
variable {S T : Nat → Prop} {w w' w1 w2 : World}
theorem Ot.refl (S : Nat → Prop) (w : World) : Ot S w w := ⟨rfl, rfl, rfl, Nat.le_refl _, fun _ _ _ => rfl⟩
theorem Ot.trans (h : Ot S w w1) (k : Ot S w1 w2) : Ot S w w2 :=
  ⟨k.os.trans h.os, k.tape.trans h.tape, k.output.trans h.output, Nat.le_trans h.size k.size, fun i hi hs => (k.block i (Nat.lt_of_lt_of_le hi h.size) hs).trans (h.block i hi hs)⟩
/-- The second step's blocks are of S or new. -/
theorem Ot.step (h : Ot S w w1) (k : Ot T w1 w2) (hT : ∀ i, T i → i < w.heap.size → S i) : Ot S w w2 :=
  ⟨k.os.trans h.os, k.tape.trans h.tape, k.output.trans h.output, Nat.le_trans h.size k.size, fun i hi hs => (k.block i (Nat.lt_of_lt_of_le hi h.size) (fun ht => hs (hT i ht hi))).trans (h.block i hi hs)⟩
theorem Ot.mono (h : Ot S w w') (hT : ∀ i, S i → i < w.heap.size → T i) : Ot T w w' := ⟨h.os, h.tape, h.output, h.size, fun i hi hs => h.block i hi (fun k => hs (hT i k hi))⟩
theorem Ot.of_below (S : Nat → Prop) (h : Below w.heap.size w w') : Ot S w w' := ⟨h.os, h.tape, h.output, h.size, fun i hi _ => h.block i hi⟩
theorem Ot.below (h : Ot S w w') {B : Nat} (hB : B ≤ w.heap.size) (hS : ∀ i, S i → B ≤ i) : Below B w w' := ⟨h.os, h.tape, h.output, h.size, fun i hi => h.block i (by omega) (fun k => by have := hS i k; omega)⟩
theorem Ot.alloc (h : Ot S w w') (o : Obj) : Ot S w (w'.alloc o) := h.step (Ot.of_below (fun _ => False) (below_alloc w' o)) (fun _ k _ => k.elim)
theorem Ot.drewN (h : Ot S w w') (q : Nat) : Ot S w (w'.drewN q) := ⟨h.os, h.tape, h.output, h.size, h.block⟩
theorem Ot.drew (h : Ot S w w') : Ot S w w'.drew := ⟨h.os, h.tape, h.output, h.size, h.block⟩
theorem Ot.setCell (h : Ot S w w') {p : Addr} (hp : p.block < w.heap.size → S p.block) (u : Value) : Ot S w (w'.setCell p u) :=
  h.step (T := fun i => i = p.block) ⟨rfl, rfl, rfl, by simp [World.setCell], fun k _ hk => Below.heap_setCell _ _ _ _ hk⟩ (fun i hi hl => by subst hi; exact hp hl)
theorem heap_setBlock_ne (w : World) (b : Nat) (o : Obj) {i : Nat} (h : i ≠ b) : (setBlock w b o).heap[i]? = w.heap[i]? := by
  simp only [setBlock]
  exact Array.getElem?_setIfInBounds_ne (by omega)
theorem heap_setBlock_eq (w : World) (b : Nat) (o : Obj) (h : b < w.heap.size) : (setBlock w b o).heap[b]? = some o := by
  simp only [setBlock]
  rw [Array.getElem?_setIfInBounds_self, if_pos h]
theorem size_setBlock (w : World) (b : Nat) (o : Obj) : (setBlock w b o).heap.size = w.heap.size := by simp [setBlock]
theorem Ot.setBlock (h : Ot S w w') (b : Nat) (o : Obj) (hp : b < w.heap.size → S b) : Ot S w (setBlock w' b o) :=
  h.step (T := fun i => i = b) ⟨rfl, rfl, rfl, by simp [ChangeMaps.setBlock], fun _ _ hk => heap_setBlock_ne _ _ _ hk⟩ (fun i hi hl => by subst hi; exact hp hl)
theorem Ot.cell (h : Ot S w w') {p : Addr} (hp : p.block < w.heap.size) (hs : ¬ S p.block) : w'.cell? p = w.cell? p := World.cell?_of_block (w := w) (h.block p.block hp hs)
theorem Ot.cellv (h : Ot S w w') {p : Addr} {v : Value} (hv : w.cell? p = some v) (hs : ¬ S p.block) : w'.cell? p = some v := (h.cell (World.block_lt_of_cell? _ _ hv) hs).trans hv
theorem lt_of_block {w : World} {b : Nat} {o : Obj} (h : w.heap[b]? = some o) : b < w.heap.size := by
  rcases Nat.lt_or_ge b w.heap.size with k | k
  · exact k
  · rw [Array.getElem?_eq_none k] at h; cases h
theorem Ot.obj (h : Ot S w w') {b : Nat} {o : Obj} (hv : w.heap[b]? = some o) (hs : ¬ S b) : w'.heap[b]? = some o := (h.block b (lt_of_block hv) hs).trans hv
end

/-- The list of a map's entries is in order. -/
structure WF {β : Type} (l : List (Nat × β × Nat)) (c : Nat) : Prop where
  keys : (l.map (·.1)).Nodup
  borns : (l.map (·.2.2)).Nodup
  old : ∀ x ∈ l, x.2.2 < c

section
variable {β : Type} {l : List (Nat × β × Nat)} {c : Nat}

theorem nodup_eq {α γ : Type} {f : α → γ} : ∀ {l : List α}, (l.map f).Nodup → ∀ {x y : α}, x ∈ l → y ∈ l → f x = f y → x = y
  | [], _, _, _, h, _, _ => by cases h
  | a :: l, hn, x, y, hx, hy, he => by
    simp only [List.map_cons, List.nodup_cons] at hn
    rcases List.mem_cons.1 hx with h1 | h1
    · rcases List.mem_cons.1 hy with h2 | h2
      · rw [h1, h2]
      · exact (hn.1 (by rw [← h1, he]; exact List.mem_map_of_mem h2)).elim
    · rcases List.mem_cons.1 hy with h2 | h2
      · exact (hn.1 (by rw [← h2, ← he]; exact List.mem_map_of_mem h1)).elim
      · exact nodup_eq hn.2 h1 h2 he

theorem WF.key_eq (h : WF l c) {x y : Nat × β × Nat} (hx : x ∈ l) (hy : y ∈ l) (he : x.1 = y.1) : x = y := nodup_eq h.keys hx hy he
theorem WF.born_eq (h : WF l c) {x y : Nat × β × Nat} (hx : x ∈ l) (hy : y ∈ l) (he : x.2.2 = y.2.2) : x = y := nodup_eq h.borns hx hy he

theorem WF.sub (h : WF l c) {m : List (Nat × β × Nat)} (hs : m.Sublist l) : WF m c :=
  ⟨h.keys.sublist (hs.map _), h.borns.sublist (hs.map _), fun x hx => h.old x (hs.subset hx)⟩

theorem lk_mem : ∀ {l : List (Nat × β × Nat)}, (l.map (·.1)).Nodup → ∀ {x}, x ∈ l → lk x.1 l = some x.2.1
  | [], _, _, h => by cases h
  | e :: l, hn, x, hx => by
    simp only [List.map_cons, List.nodup_cons] at hn
    rcases List.mem_cons.1 hx with rfl | hx
    · simp [lk]
    · have : ¬ x.1 = e.1 := fun he => hn.1 (by rw [← he]; exact List.mem_map_of_mem hx)
      simp only [lk, if_neg this]
      exact lk_mem hn.2 hx

theorem lk_none : ∀ {l : List (Nat × β × Nat)} {k : Nat}, (∀ x ∈ l, x.1 ≠ k) → lk k l = none
  | [], _, _ => rfl
  | e :: l, k, h => by
    have : ¬ k = e.1 := fun he => h e (by simp) he.symm
    simp only [lk, if_neg this]
    exact lk_none (fun x hx => h x (by simp [hx]))

theorem mem_of_lk : ∀ {l : List (Nat × β × Nat)} {k : Nat} {v : β}, lk k l = some v → ∃ c, (k, v, c) ∈ l
  | [], _, _, h => by cases h
  | e :: l, k, v, h => by
    simp only [lk] at h
    split at h
    · rename_i hk
      cases h
      exact ⟨e.2.2, by rw [hk]; simp⟩
    · obtain ⟨c, hc⟩ := mem_of_lk h
      exact ⟨c, by simp [hc]⟩

theorem del_filter : ∀ {l : List (Nat × β × Nat)}, (l.map (·.1)).Nodup → ∀ (k : Nat), del k l = l.filter fun x => x.1 != k
  | [], _, _ => rfl
  | e :: l, hn, k => by
    simp only [List.map_cons, List.nodup_cons] at hn
    by_cases h : k = e.1
    · subst h
      have : l.filter (fun x => x.1 != e.1) = l := List.filter_eq_self.2 fun x hx => by
        simp only [bne_iff_ne, ne_eq]
        intro he
        exact hn.1 (by rw [← he]; exact List.mem_map_of_mem hx)
      simp [del, this]
    · have h' : (e.1 != k) = true := by simp; omega
      simp only [del, if_neg h, List.filter_cons, h', if_true]
      rw [del_filter hn.2 k]
end

/-- A RANGE OVER THE MAP's BLOCK b IS ON, its iterator in block r: l: what the map held when the loop began; lc: what it holds; D: the keys that have come. -/
structure It {β : Type} (w : World) (K : Nat → Value) (V : β → Value) (l lc : List (Nat × β × Nat)) (b r c : Nat) (D : List Nat) : Prop where
  map : w.heap[b]? = some (mobj K V lc c)
  iter : ∃ seen c0, w.heap[r]? = some (.mapIter (some b) c seen c0) ∧ c ≤ c0 ∧ ∀ x ∈ l, (seen.contains x.2.2 = true ↔ x.1 ∈ D)
  sub : lc.Sublist l
  wf : WF l c

section
variable {β : Type} {P : Program} {w w' : World} {K : Nat → Value} {V : β → Value} {l lc : List (Nat × β × Nat)} {b r c : Nat} {D : List Nat}

theorem It.next (h : It w K V l lc b r c D) (hbr : b ≠ r) (ty : TypeId) :
    ((∀ x ∈ lc, x.1 ∈ D) ∧ (Instr.next (.pointer (some ⟨r, 0, none⟩)) false ty).run P w = .ok (.tuple #[.bool false]) w) ∨
    ∃ x ∈ lc, x.1 ∉ D ∧ ∃ w1 : World, Ot (fun i => i = r) w w1 ∧ w1.heap.size = w.heap.size ∧ It w1 K V l lc b r c (x.1 :: D) ∧
      (Instr.next (.pointer (some ⟨r, 0, none⟩)) false ty).run P w = .ok (.tuple #[.bool true, K x.1, V x.2.1]) w1 ∧ (Instr.entry (.pointer (some ⟨r, 0, none⟩))).run P w1 = .ok (.tuple #[K x.1, V x.2.1]) w1 := by
  obtain ⟨seen, c0, hr, hc, hs⟩ := h.iter
  have hwf := h.wf.sub h.sub
  have hin : ∀ x : MapEntry, x ∈ (leftOf (lc.map (ent K V)).toArray seen).toList ↔ ∃ y ∈ lc, y.1 ∉ D ∧ x = ent K V y := by
    intro x
    unfold leftOf
    simp only [Array.mem_toList_iff, Array.mem_filter, List.mem_toArray, List.mem_map]
    constructor
    · rintro ⟨⟨y, hy, rfl⟩, h2⟩
      refine ⟨y, hy, fun hd => ?_, rfl⟩
      have := (hs y (h.sub.subset hy)).2 hd
      simp [ent] at h2
      simp at this
      exact h2 this
    · rintro ⟨y, hy, hd, rfl⟩
      refine ⟨⟨y, hy, rfl⟩, ?_⟩
      have := (hs y (h.sub.subset hy))
      cases hcn : seen.contains y.2.2 with
      | true => exact (hd (this.1 hcn)).elim
      | false => simp [ent] at hcn ⊢; exact hcn
  have hold : ∀ x ∈ ((lc.map (ent K V)).toArray).toList, x.born < c := fun x hx => by
    simp at hx
    obtain ⟨a, b', c', hy, rfl⟩ := hx
    exact hwf.old _ hy
  rcases run_next_at (P := P) w ty r b c c0 seen _ c hr h.map hold hc with ⟨h0, hrun⟩ | ⟨e, he, w1, hw1, hrun⟩
  · left
    refine ⟨fun x hx => ?_, hrun⟩
    by_cases hd : x.1 ∈ D
    · exact hd
    · have := (hin (ent K V x)).2 ⟨x, hx, hd, rfl⟩
      rw [Array.eq_empty_of_size_eq_zero h0] at this
      simp at this
  · right
    obtain ⟨x, hx, hd, rfl⟩ := (hin e).1 he
    have hw1h : w1.heap = w.heap := by rcases hw1 with rfl | rfl <;> rfl
    have hrl := lt_of_block hr
    have ho : Ot (fun i => i = r) w (setBlock w1 r (.mapIter (some b) c (seen.push x.2.2) c)) := by
      have h1 : Ot (fun i => i = r) w w1 := by
        rcases hw1 with rfl | rfl
        · exact Ot.refl _ _
        · exact (Ot.refl _ _).drew
      exact h1.setBlock _ _ (fun _ => rfl)
    have hm := ho.obj h.map hbr
    have hr' : (setBlock w1 r (.mapIter (some b) c (seen.push x.2.2) c)).heap[r]? = some (.mapIter (some b) c (seen.push x.2.2) c) := heap_setBlock_eq _ _ _ (by rw [hw1h]; exact hrl)
    refine ⟨x, hx, hd, _, ho, by rw [size_setBlock, hw1h], ⟨hm, ⟨_, _, hr', Nat.le_refl _, fun y hy => ?_⟩, h.sub, h.wf⟩, hrun, ?_⟩
    · have h1 := hs y hy
      have hcp : (seen.push x.2.2).contains y.2.2 = true ↔ (seen.contains y.2.2 = true ∨ y.2.2 = x.2.2) := by
        simp
      rw [hcp, h1, List.mem_cons]
      constructor
      · rintro (h2 | h2)
        · exact .inr h2
        · exact .inl (by rw [h.wf.born_eq hy (h.sub.subset hx) h2])
      · rintro (h2 | h2)
        · exact .inr (by rw [h.wf.key_eq hy (h.sub.subset hx) h2])
        · exact .inl h2
    · exact run_entry_at (P := P) _ r b c seen _ c (ent K V x) hr' hm (by simp; exact ⟨_, _, _, hx, rfl⟩) (by
        have := hwf.borns
        simpa [List.map_map, Function.comp_def, ent] using this)

theorem It.kept (h : It w K V l lc b r c D) {S : Nat → Prop} (ho : Ot S w w') (hb : ¬ S b) (hr : ¬ S r) : It w' K V l lc b r c D := by
  obtain ⟨seen, c0, h1, h2, h3⟩ := h.iter
  exact ⟨ho.obj h.map hb, ⟨seen, c0, ho.obj h1 hr, h2, h3⟩, h.sub, h.wf⟩

theorem It.start (hm : w.heap[b]? = some (mobj K V l c)) (hw : WF l c) : It (w.alloc (.mapIter (some b) c #[] c)) K V l l b w.heap.size c [] :=
  ⟨by rw [Below.heap_alloc _ _ _ (lt_of_block hm)]; exact hm, ⟨#[], c, heap_alloc_new _ _, Nat.le_refl _, fun x _ => by simp⟩, List.Sublist.refl _, hw⟩

theorem It.turn (h : It w K V l lc b r c D) (hbr : b ≠ r) {lc' : List (Nat × β × Nat)} (hs : lc'.Sublist l) : It (setBlock w b (mobj K V lc' c)) K V l lc' b r c D := by
  obtain ⟨seen, c0, h1, h2, h3⟩ := h.iter
  exact ⟨heap_setBlock_eq _ _ _ (lt_of_block h.map), ⟨seen, c0, by rw [heap_setBlock_ne _ _ _ (Ne.symm hbr)]; exact h1, h2, h3⟩, hs, h.wf⟩
end

theorem run_len_mine {β : Type} {P : Program} {w : World} {K : Nat → Value} {V : β → Value} {l : List (Nat × β × Nat)} {b c : Nat} {t kt et ty : TypeId} (ht : P.underlying t = some (.map kt et)) (hb : w.heap[b]? = some (mobj K V l c)) :
    (Builtin.len_ #[t] ty #[.map (some b)]).run P w = .ok (.int .i64 l.length) w := by
  unfold mobj at hb
  simp [Builtin.len_, run_underlying ht, getObj, Sem.run, Sem.run_bind, hb, Result.andThen]
  rfl

section
variable {P : Program} (w : World) {ops : Array Oper} {rest : List Oper} {o : Oper} {a : Act} {Q : Exit → Act → World → Prop}

theorem wpList_range_mine {β : Type} {K : Nat → Value} {V : β → Value} {l : List (Nat × β × Nat)} {b c : Nat} (hg : o.guard = none) (m : Operand) (t kt et : TypeId) (hop : o.op = Op.range t m) (ht : P.underlying t = some (.map kt et))
    (hm : a.eval m = .map (some b)) (hb : w.heap[b]? = some (mobj K V l c))
    (hK : wpList P ops Q rest (a.put o.dst (.pointer (some ⟨w.heap.size, 0, none⟩))) (w.alloc (.mapIter (some b) c #[] c))) : wpList P ops Q (o :: rest) a w := by
  refine wpList_plain hg fun K' hK' => ?_
  unfold Oper.wp
  have hrun := run_range_map (P := P) w t kt et b _ c ht hb
  simp [execOp, hop, hm, hrun, Result.andThen]
  exact hK' _ _ hK

theorem wpList_next_mine {β : Type} {K : Nat → Value} {V : β → Value} {l lc : List (Nat × β × Nat)} {b r c : Nat} {D : List Nat} (hg : o.guard = none) (it : Operand) (hop : o.op = Op.next it false)
    (hit : a.eval it = .pointer (some ⟨r, 0, none⟩)) (h : It w K V l lc b r c D) (hbr : b ≠ r)
    (hDone : (∀ x ∈ lc, x.1 ∈ D) → wpList P ops Q rest (a.put o.dst (.tuple #[.bool false])) w)
    (hMore : ∀ (k : Nat) (v : β) (s : Nat) (w1 : World), (k, v, s) ∈ lc → k ∉ D → Ot (fun i => i = r) w w1 → w1.heap.size = w.heap.size → It w1 K V l lc b r c (k :: D) →
      (Instr.entry (.pointer (some ⟨r, 0, none⟩))).run P w1 = .ok (.tuple #[K k, V v]) w1 → wpList P ops Q rest (a.put o.dst (.tuple #[.bool true, K k, V v])) w1) :
    wpList P ops Q (o :: rest) a w := by
  refine wpList_plain hg fun K' hK' => ?_
  unfold Oper.wp
  rcases h.next (P := P) hbr o.type with ⟨h0, hrun⟩ | ⟨⟨k, v, s⟩, hx, hd, w1, h1, h2, h3, hrun, h4⟩
  · simp [execOp, hop, hit, hrun, Result.andThen]
    exact hK' _ _ (hDone h0)
  · simp [execOp, hop, hit, hrun, Result.andThen]
    exact hK' _ _ (hMore k v s w1 hx hd h1 h2 h3 h4)
end

end Go.Proofs.Ybulkdjcm
