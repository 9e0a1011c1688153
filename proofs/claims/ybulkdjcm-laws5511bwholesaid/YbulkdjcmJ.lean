/-
  THE PLAIN LAW: what the inner maps hold after the publishes, and which publishes are the last of their name and port. No Go in sight.
-/
import Derived.Test.YbulkdjcmI
namespace Go.Proofs.Ybulkdjcm
open Go.RowKit Go.ChangeMaps Go.Sort

section
variable {β : Type}
theorem lk_upd (k : Nat) (v : β) (c : Nat) : ∀ l : List (Nat × β × Nat), lk k (upd k v c l) = some v
  | [] => by simp [upd, lk]
  | e :: l => by
    unfold upd
    split
    · simp [lk]
    · rename_i h
      simp [lk, h, lk_upd k v c l]
theorem upd_upd (k : Nat) (v : β) (c c' : Nat) : ∀ l : List (Nat × β × Nat), upd k v c' (upd k v c l) = upd k v c l
  | [] => by simp [upd]
  | e :: l => by
    by_cases h : k = e.1
    · simp [upd, h]
    · simp [upd, h, upd_upd k v c c' l]
theorem updc_upd (k : Nat) (v : β) (c c' : Nat) (l : List (Nat × β × Nat)) : updc k c' (upd k v c l) = c' := by
  unfold updc
  simp [lk_upd]
theorem upd_new {k : Nat} {v : β} {c : Nat} {l : List (Nat × β × Nat)} (h : ∀ x ∈ l, x.1 ≠ k) : upd k v c l = l ++ [(k, v, c)] ∧ updc k c l = c + 1 := by
  have h1 := lk_none h
  have h2 : fk k l 0 = none := by
    have := fk_lk k l 0
    rw [h1] at this
    simpa using this
  exact ⟨(fk_not k l 0 h2).2 v c, by simp [updc, h1]⟩
theorem upd_keys (k : Nat) (v : β) (c : Nat) : ∀ (l : List (Nat × β × Nat)) (x : Nat × β × Nat), x ∈ upd k v c l → x.1 = k ∧ x.2.1 = v ∨ x ∈ l
  | [], x, h => by
    simp [upd] at h
    subst h
    exact .inl ⟨rfl, rfl⟩
  | e :: l, x, h => by
    unfold upd at h
    split at h
    · rcases List.mem_cons.1 h with h | h
      · subst h; exact .inl ⟨rfl, rfl⟩
      · exact .inr (List.mem_cons_of_mem _ h)
    · rcases List.mem_cons.1 h with h | h
      · subst h; exact .inr (List.mem_cons_self ..)
      · rcases upd_keys k v c l x h with h | h
        · exact .inl h
        · exact .inr (List.mem_cons_of_mem _ h)
theorem upd_perm (k : Nat) (v : β) (c : Nat) : ∀ {l : List (Nat × β × Nat)}, (l.map (·.1)).Nodup → ((upd k v c l).map fun x => (x.1, x.2.1)).Perm (((l.filter fun x => x.1 != k).map fun x => (x.1, x.2.1)) ++ [(k, v)])
  | [], _ => by simp [upd]
  | e :: l, hn => by
    simp only [List.map_cons, List.nodup_cons] at hn
    unfold upd
    split
    · rename_i h
      have : l.filter (fun x => x.1 != k) = l := List.filter_eq_self.2 fun x hx => by
        simp only [bne_iff_ne, ne_eq]
        intro he
        exact hn.1 (by rw [← h, ← he]; exact List.mem_map_of_mem hx)
      have h2 : (e.1 != k) = false := by simp [h]
      simp only [List.filter_cons, h2, Bool.false_eq_true, if_false, this, List.map_cons]
      exact (List.perm_append_comm (l₁ := [(k, v)]))
    · rename_i h
      have h2 : (e.1 != k) = true := by simp; omega
      simp only [List.filter_cons, h2, if_true, List.map_cons, List.cons_append]
      exact (upd_perm k v c hn.2).cons _
theorem WF.upd {l : List (Nat × β × Nat)} {c : Nat} (h : WF l c) (k : Nat) (v : β) : WF (upd k v c l) (updc k c l) := by
  by_cases hk : ∃ x ∈ l, x.1 = k
  · obtain ⟨x, hx, rfl⟩ := hk
    have hs : (lk x.1 l).isSome = true := by rw [lk_mem h.keys hx]; rfl
    have hc : updc x.1 c l = c := by simp [updc, hs]
    have e1 : ∀ (l : List (Nat × β × Nat)), (lk x.1 l).isSome = true → (Ybulkdjcm.upd x.1 v c l).map (·.1) = l.map (·.1) ∧ (Ybulkdjcm.upd x.1 v c l).map (·.2.2) = l.map (·.2.2) := by
      intro l
      induction l with
      | nil => intro h; simp [lk] at h
      | cons e l ih =>
        intro h
        unfold lk at h
        unfold Ybulkdjcm.upd
        by_cases he : x.1 = e.1
        · simp [he]
        · simp only [he, if_false] at h ⊢
          simp [ih h]
    have e2 := e1 l hs
    rw [hc]
    refine ⟨by rw [e2.1]; exact h.keys, by rw [e2.2]; exact h.borns, fun y hy => ?_⟩
    have : y.2.2 ∈ l.map (·.2.2) := by rw [← e2.2]; exact List.mem_map_of_mem hy
    obtain ⟨z, hz, hzy⟩ := List.mem_map.1 this
    rw [← hzy]
    exact h.old z hz
  · have hne : ∀ x ∈ l, x.1 ≠ k := fun x hx he => hk ⟨x, hx, he⟩
    obtain ⟨e1, e2⟩ := upd_new (v := v) (c := c) hne
    rw [e1, e2]
    refine ⟨?_, ?_, fun y hy => ?_⟩
    · rw [List.map_append, List.nodup_append]
      refine ⟨h.keys, by simp, ?_⟩
      intro a ha b hb
      simp at hb
      subst hb
      obtain ⟨x, hx, rfl⟩ := List.mem_map.1 ha
      exact hne x hx
    · rw [List.map_append, List.nodup_append]
      refine ⟨h.borns, by simp, ?_⟩
      intro a ha b hb
      simp at hb
      subst hb
      obtain ⟨x, hx, rfl⟩ := List.mem_map.1 ha
      have := h.old x hx
      omega
    · rcases List.mem_append.1 hy with hy | hy
      · have := h.old y hy; omega
      · simp at hy
        subst hy
        simp
theorem WF.nil : WF ([] : List (Nat × β × Nat)) 0 := ⟨by simp, by simp, fun x hx => by cases hx⟩
end

theorem one_filter {α : Type} (p : α → Bool) (x : α) : [x].filter p = if p x then [x] else [] := by
  cases h : p x <;> simp [h]

/-- A publish: the name's number, the port, how many minutes ago. -/
abbrev Ent := Nat × Nat × Int
def stp (k : Nat) (p : List (Nat × Int × Nat) × Nat) (e : Ent) : List (Nat × Int × Nat) × Nat := if e.1 % 8 = k then (upd e.2.1 e.2.2 p.2 p.1, updc e.2.1 p.2 p.1) else p
/-- What the inner map of name k holds after the publishes es, and its clock. -/
def st (k : Nat) (es : List Ent) : List (Nat × Int × Nat) × Nat := es.foldl (stp k) ([], 0)
theorem st_snoc (k : Nat) (es : List Ent) (e : Ent) : st k (es ++ [e]) = stp k (st k es) e := by simp [st, List.foldl_append]
theorem st_same {k : Nat} {es : List Ent} {e : Ent} (h : e.1 % 8 = k) : st k (es ++ [e]) = (upd e.2.1 e.2.2 (st k es).2 (st k es).1, updc e.2.1 (st k es).2 (st k es).1) := by rw [st_snoc, stp, if_pos h]
theorem st_other {k : Nat} {es : List Ent} {e : Ent} (h : e.1 % 8 ≠ k) : st k (es ++ [e]) = st k es := by rw [st_snoc, stp, if_neg h]
theorem st_none {k : Nat} {es : List Ent} (h : ∀ e ∈ es, e.1 % 8 ≠ k) : st k es = ([], 0) := by
  unfold st
  generalize hp : (([], 0) : List (Nat × Int × Nat) × Nat) = p
  clear hp
  induction es with
  | nil => rfl
  | cons e es ih =>
    rw [List.foldl_cons, stp, if_neg (h e (by simp))]
    exact ih (fun x hx => h x (by simp [hx]))

/-- Induction from the list's end. -/
theorem snoc_ind {α : Type} {P : List α → Prop} (h0 : P []) (h1 : ∀ l x, P l → P (l ++ [x])) (l : List α) : P l := by
  have : ∀ n (l : List α), l.length = n → P l := by
    intro n
    induction n with
    | zero => intro l hl; rw [List.length_eq_zero_iff.1 hl]; exact h0
    | succ n ih =>
      intro l hl
      have hne : l ≠ [] := fun h => by rw [h] at hl; simp at hl
      rw [← List.dropLast_concat_getLast hne]
      exact h1 _ _ (ih _ (by simp [hl]))
  exact this _ l rfl

theorem st_wf (k : Nat) (es : List Ent) : WF (st k es).1 (st k es).2 := by
  induction es using snoc_ind with
  | h0 => exact WF.nil
  | h1 es e ih =>
    by_cases h : e.1 % 8 = k
    · rw [st_same h]; exact ih.upd _ _
    · rw [st_other h]; exact ih
theorem st_mem (k : Nat) (es : List Ent) : ∀ x ∈ (st k es).1, ∃ e ∈ es, e.2.1 = x.1 ∧ e.2.2 = x.2.1 := by
  induction es using snoc_ind with
  | h0 => intro x hx; simp [st] at hx
  | h1 es e ih =>
    intro x hx
    by_cases h : e.1 % 8 = k
    · rw [st_same h] at hx
      rcases upd_keys _ _ _ _ _ hx with h1 | h1
      · exact ⟨e, by simp, h1.1.symm, h1.2.symm⟩
      · obtain ⟨e', h2, h3⟩ := ih x h1
        exact ⟨e', by simp [h2], h3⟩
    · rw [st_other h] at hx
      obtain ⟨e', h2, h3⟩ := ih x hx
      exact ⟨e', by simp [h2], h3⟩

/-- The j-th publish. -/
def ea (es : List Ent) (j : Nat) : Ent := es.getD j (0, 0, 0)
theorem ea_some {es : List Ent} {j : Nat} {e : Ent} (h : es[j]? = some e) : ea es j = e := by simp [ea, List.getD_eq_getElem?_getD, h]
theorem ea_mem {es : List Ent} {j : Nat} (h : j < es.length) : ea es j ∈ es := by
  rw [ea_some (List.getElem?_eq_getElem h)]
  exact List.getElem_mem h
/-- Same name and same port. -/
def sm (a b : Ent) : Bool := decide (a.1 % 8 = b.1 % 8) && decide (a.2.1 = b.2.1)
/-- The j-th publish is the last of its name and port. -/
def fin (es : List Ent) (j : Nat) : Bool := (es.drop (j + 1)).all fun e => !sm e (ea es j)
/-- The last publishes under name k, by their numbers. -/
def idx (k : Nat) (es : List Ent) : List Nat := (List.range es.length).filter fun j => fin es j && decide ((ea es j).1 % 8 = k)

theorem fin_iff (es : List Ent) (j : Nat) : fin es j = true ↔ ∀ l, j < l → l < es.length → sm (ea es l) (ea es j) = false := by
  unfold fin
  rw [List.all_eq_true]
  constructor
  · intro h l hl hl2
    have := h (ea es l) (by
      rw [ea_some (List.getElem?_eq_getElem hl2), List.mem_iff_getElem?]
      exact ⟨l - (j + 1), by rw [List.getElem?_drop, show j + 1 + (l - (j + 1)) = l by omega, List.getElem?_eq_getElem hl2]⟩)
    simpa using this
  · intro h e he
    obtain ⟨i, hi⟩ := List.mem_iff_getElem?.1 he
    rw [List.getElem?_drop] at hi
    have hlt := (List.getElem?_eq_some_iff.1 hi).1
    have := h (j + 1 + i) (by omega) hlt
    rw [ea_some hi] at this
    simp [this]

theorem getD_snoc_lt {es : List Ent} {e : Ent} {j : Nat} (h : j < es.length) : ea (es ++ [e]) j = ea es j := by
  simp [ea, List.getD_eq_getElem?_getD, List.getElem?_append_left h]
theorem getD_snoc_eq {es : List Ent} {e : Ent} : ea (es ++ [e]) es.length = e := by
  simp [ea, List.getD_eq_getElem?_getD]

theorem fin_snoc_lt {es : List Ent} {e : Ent} {j : Nat} (h : j < es.length) : fin (es ++ [e]) j = (fin es j && !sm e (ea es j)) := by
  unfold fin
  rw [getD_snoc_lt h, List.drop_append_of_le_length (by omega), List.all_append]
  simp
theorem fin_snoc_eq {es : List Ent} {e : Ent} : fin (es ++ [e]) es.length = true := by
  unfold fin
  rw [List.drop_eq_nil_of_le (by simp)]
  rfl

/-- THE INNER MAP OF NAME k HOLDS THE LAST PUBLISHES UNDER THAT NAME. -/
theorem st_idx (k : Nat) (es : List Ent) : ((st k es).1.map fun x => (x.1, x.2.1)).Perm ((idx k es).map fun j => ((ea es j).2.1, (ea es j).2.2)) := by
  induction es using snoc_ind with
  | h0 => simp [st, idx]
  | h1 es e ih =>
    have hidx : idx k (es ++ [e]) = ((idx k es).filter fun j => !sm e (ea es j)) ++ (if e.1 % 8 = k then [es.length] else []) := by
      unfold idx
      rw [List.length_append, List.length_singleton, List.range_succ, List.filter_append, List.filter_filter]
      congr 1
      · apply List.filter_congr
        intro j hj
        have hj' : j < es.length := by simpa using hj
        rw [getD_snoc_lt hj', fin_snoc_lt hj']
        cases fin es j <;> cases sm e (ea es j) <;> simp
      · rw [one_filter, fin_snoc_eq, getD_snoc_eq]
        by_cases h : e.1 % 8 = k <;> simp [h]
    have hmap : ∀ (m : List Nat), (∀ j ∈ m, j < es.length) → m.map (fun j => ((ea (es ++ [e]) j).2.1, (ea (es ++ [e]) j).2.2)) = m.map fun j => ((ea es j).2.1, (ea es j).2.2) := fun m hm => by
      apply List.map_congr_left
      intro j hj
      rw [getD_snoc_lt (hm j hj)]
    have hin : ∀ j ∈ idx k es, j < es.length ∧ (ea es j).1 % 8 = k := fun j hj => by
      unfold idx at hj
      obtain ⟨h1, h2⟩ := List.mem_filter.1 hj
      refine ⟨by simpa using h1, ?_⟩
      simp at h2
      simpa using h2.2
    rw [hidx, List.map_append, hmap _ (fun j hj => (hin j (List.mem_filter.1 hj).1).1)]
    by_cases h : e.1 % 8 = k
    · rw [st_same h, if_pos h]
      simp only [List.map_cons, List.map_nil, getD_snoc_eq]
      refine (upd_perm e.2.1 e.2.2 (st k es).2 (st_wf k es).keys).trans ?_
      refine List.Perm.append_right _ ?_
      have e1 : ((st k es).1.filter fun x => x.1 != e.2.1).map (fun x => (x.1, x.2.1)) = ((st k es).1.map fun x => (x.1, x.2.1)).filter (fun y => y.1 != e.2.1) := by
        rw [List.filter_map]; rfl
      have e2 : ((idx k es).filter fun j => !sm e (ea es j)).map (fun j => ((ea es j).2.1, (ea es j).2.2)) = ((idx k es).map fun j => ((ea es j).2.1, (ea es j).2.2)).filter (fun y => y.1 != e.2.1) := by
        rw [List.filter_map]
        congr 1
        apply List.filter_congr
        intro j hj
        have := (hin j hj).2
        simp only [sm, Function.comp, h, this, decide_true, Bool.true_and]
        by_cases hp : e.2.1 = (ea es j).2.1
        · simp [hp]
        · have : ¬ (ea es j).2.1 = e.2.1 := fun h => hp h.symm
          simp [hp, this]
      rw [e1, e2]
      exact ih.filter _
    · rw [st_other h, if_neg h]
      simp only [List.map_nil, List.append_nil]
      have : (idx k es).filter (fun j => !sm e (ea es j)) = idx k es := List.filter_eq_self.2 fun j hj => by
        have := (hin j hj).2
        simp [sm, this, h]
      rw [this]
      exact ih

/-- How many of the first t publishes are the last of their name and port, are under name k and less than three minutes old. -/
def cnt (k : Nat) (es : List Ent) (t : Nat) : Nat := ((List.range t).filter fun j => fin es j && decide ((ea es j).2.2 < 3) && decide ((ea es j).1 % 8 = k)).length
theorem cnt_zero (k : Nat) (es : List Ent) : cnt k es 0 = 0 := rfl
theorem cnt_succ (k : Nat) (es : List Ent) (t : Nat) : cnt k es (t + 1) = cnt k es t + (if (fin es t && decide ((ea es t).2.2 < 3)) = true ∧ (ea es t).1 % 8 = k then 1 else 0) := by
  unfold cnt
  rw [List.range_succ, List.filter_append, List.length_append, one_filter]
  congr 1
  by_cases h1 : (fin es t && decide ((ea es t).2.2 < 3)) = true <;> by_cases h2 : (ea es t).1 % 8 = k <;> simp [h1, h2]

theorem cnt_le (k : Nat) (es : List Ent) (t : Nat) : cnt k es t ≤ t := by
  unfold cnt
  exact Nat.le_trans (List.length_filter_le ..) (by simp)

theorem cnt_kp (k : Nat) (es : List Ent) : cnt k es es.length = (kp (st k es).1).length := by
  have h := (st_idx k es).filter (fun y => decide (y.2 < 3))
  have h2 := h.length_eq
  rw [List.filter_map, List.filter_map, List.length_map, List.length_map] at h2
  unfold kp
  have e1 : (st k es).1.filter (fun x => decide (x.2.1 < 3)) = (st k es).1.filter ((fun y : Nat × Int => decide (y.2 < 3)) ∘ fun x => (x.1, x.2.1)) := rfl
  rw [e1, h2]
  unfold cnt idx
  rw [List.filter_filter]
  congr 1
  apply List.filter_congr
  intro j _
  simp only [Function.comp]
  cases fin es j <;> cases decide ((ea es j).2.2 < 3) <;> cases decide ((ea es j).1 % 8 = k) <;> rfl

/-- A last publish is found in its map; after the sweep only if it is young. -/
theorem last_found {es : List Ent} {j : Nat} (hj : j < es.length) (hf : fin es j = true) :
    lk (ea es j).2.1 (kp (st ((ea es j).1 % 8) es).1) = if (ea es j).2.2 < 3 then some (ea es j).2.2 else none := by
  generalize hk : (ea es j).1 % 8 = k
  have hin : j ∈ idx k es := by
    unfold idx
    exact List.mem_filter.2 ⟨by simpa using hj, by simp [hf, hk]⟩
  have hm : ((ea es j).2.1, (ea es j).2.2) ∈ (st k es).1.map fun x => (x.1, x.2.1) := (st_idx k es).mem_iff.2 (List.mem_map.2 ⟨j, hin, rfl⟩)
  obtain ⟨x, hx, hxe⟩ := List.mem_map.1 hm
  have h1 : x.1 = (ea es j).2.1 := congrArg Prod.fst hxe
  have h2 : x.2.1 = (ea es j).2.2 := congrArg Prod.snd hxe
  have hw := st_wf k es
  rw [← h1, ← h2]
  by_cases h3 : x.2.1 < 3
  · rw [if_pos h3]
    exact lk_mem (hw.sub (List.filter_sublist)).keys (List.mem_filter.2 ⟨hx, by simpa using h3⟩)
  · rw [if_neg h3]
    refine lk_none (fun y hy he => ?_)
    obtain ⟨hy1, hy2⟩ := List.mem_filter.1 hy
    have := hw.key_eq hy1 hx he
    rw [this] at hy2
    simp at hy2
    exact h3 hy2

end Go.Proofs.Ybulkdjcm
