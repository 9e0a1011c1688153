/-
  A SMALL THEORY OF A MAP's BLOCK: the entries are a plain list of (key, value, stamp); keys by an injective reading. Keys: ints, and the nodes' names.
-/
import Derived.Test.YbulkdjggFmtM
import Derived.Maps.RangeWalk
import Derived.Maps.OwnSet
import Derived.WideKeyRuns
namespace Go.Proofs.YbulkdjggFmt
open Go.RowKit Go.ChangeMaps

def ent {β : Type} (K : Nat → Value) (V : β → Value) (x : Nat × β × Nat) : MapEntry := { key := K x.1, val := V x.2.1, born := x.2.2 }
def mobj {β : Type} (K : Nat → Value) (V : β → Value) (l : List (Nat × β × Nat)) (c : Nat) : Obj := .map (l.map (ent K V)).toArray c
def fk {β : Type} (k : Nat) : List (Nat × β × Nat) → Nat → Option (Nat × β)
  | [], _ => none
  | e :: l, i => if k = e.1 then some (i, e.2.1) else fk k l (i + 1)
def lk {β : Type} (k : Nat) : List (Nat × β × Nat) → Option β
  | [] => none
  | e :: l => if k = e.1 then some e.2.1 else lk k l
def del {β : Type} (k : Nat) : List (Nat × β × Nat) → List (Nat × β × Nat)
  | [] => []
  | e :: l => if k = e.1 then l else e :: del k l
def upd {β : Type} (k : Nat) (v : β) (c : Nat) : List (Nat × β × Nat) → List (Nat × β × Nat)
  | [] => [(k, v, c)]
  | e :: l => if k = e.1 then (k, v, e.2.2) :: l else e :: upd k v c l
def updc {β : Type} (k : Nat) (c : Nat) (l : List (Nat × β × Nat)) : Nat := if (lk k l).isSome then c else c + 1

theorem fk_lk {β : Type} (k : Nat) : ∀ (l : List (Nat × β × Nat)) (i : Nat), (fk k l i).map (·.2) = lk k l
  | [], _ => rfl
  | e :: l, i => by
    unfold fk lk
    split
    · rfl
    · exact fk_lk k l (i + 1)

theorem fk_at {β : Type} (k : Nat) : ∀ (l : List (Nat × β × Nat)) (i j : Nat) (v : β), fk k l i = some (j, v) →
    ∃ n x, j = i + n ∧ l[n]? = some (k, v, x) ∧ del k l = l.eraseIdx n ∧ ∀ u c, upd k u c l = l.modify n (fun e => (k, u, e.2.2))
  | [], _, _, _, h => by simp [fk] at h
  | e :: l, i, j, v, h => by
    unfold fk at h
    split at h
    · rename_i hk
      simp at h
      obtain ⟨rfl, rfl⟩ := h
      refine ⟨0, e.2.2, rfl, by simp [hk], by simp [del, hk], fun u c => by simp [upd, hk]⟩
    · rename_i hk
      obtain ⟨n, x, rfl, h1, h2, h3⟩ := fk_at k l (i + 1) j v h
      exact ⟨n + 1, x, by omega, by simpa using h1, by simp [del, hk, h2], fun u c => by simp [upd, hk, h3]⟩

theorem fk_not {β : Type} (k : Nat) : ∀ (l : List (Nat × β × Nat)) (i : Nat), fk k l i = none → del k l = l ∧ ∀ u c, upd k u c l = l ++ [(k, u, c)]
  | [], _, _ => by simp [del, upd]
  | e :: l, i, h => by
    unfold fk at h
    split at h
    · simp at h
    · rename_i hk
      obtain ⟨h2, h3⟩ := fk_not k l (i + 1) h
      exact ⟨by simp [del, hk, h2], fun u c => by simp [upd, hk, h3]⟩

theorem map_erase {α γ : Type} (f : α → γ) : ∀ (l : List α) (n : Nat), (l.map f).eraseIdx n = (l.eraseIdx n).map f
  | [], _ => by simp
  | x :: l, 0 => by simp
  | x :: l, n + 1 => by simp [map_erase f l n]

/-- What is asked of the keys' reading. -/
structure Keys (P : Program) (kt : TypeId) (K : Nat → Value) (N : Nat) : Prop where
  check : ∀ (em : Bool) (a : Nat) (w : World), a < N → (Instr.checkKey em 10000 kt (K a)).run P w = .ok () w
  find : ∀ {β : Type} (V : β → Value) (a : Nat) (l : List (Nat × β × Nat)) (w : World), a < N → (∀ e ∈ l, e.1 < N) → (Instr.findKey kt (K a) (l.map (ent K V))).run P w = .ok ((fk a l 0).map fun r => (r.1, V r.2)) w
  bits : ∀ a, Instr.sameBits 10000 (K a) (K a) = true

section
variable {P : Program} {w : World} {t kt et : TypeId} {β : Type} {K : Nat → Value} {V : β → Value} {N a b c : Nat} {l : List (Nat × β × Nat)}

theorem run_lookup_mine (ht : P.underlying t = some (.map kt et)) (hK : Keys P kt K N) (ha : a < N) (hl : ∀ e ∈ l, e.1 < N) (hb : w.heap[b]? = some (mobj K V l c)) (z : Value) (hz : (zeroValue et).run P w = .ok z w) (ok : Bool) :
    (Instr.lookup t (.map (some b)) (K a) ok).run P w = .ok (if ok then .tuple #[((lk a l).map V).getD z, .bool (lk a l).isSome] else ((lk a l).map V).getD z) w := by
  have hf := hK.find V a l w ha hl
  have hk : ∀ em, (Instr.checkKey em 10000 kt (K a)).run P w = .ok () w := fun em => hK.check em a w ha
  rw [← fk_lk a l 0]
  cases hv : fk a l 0 with
  | none => cases ok <;> simp [Instr.lookup, run_underlying ht, getObj, Sem.run, Sem.run_bind, hb, mobj, Result.andThen, hk, hf, hv, hz]
  | some r => cases ok <;> simp [Instr.lookup, run_underlying ht, getObj, Sem.run, Sem.run_bind, hb, mobj, Result.andThen, hk, hf, hv]

theorem setObj_mine {es : Array MapEntry} (hb : w.heap[b]? = some (.map es c)) (o : Obj) : (setObj b o).run P w = .ok () (setBlock w b o) := by
  simp [setObj, Sem.run, hb, setBlock]

theorem run_update_mine (ht : P.underlying t = some (.map kt et)) (hK : Keys P kt K N) (ha : a < N) (hl : ∀ e ∈ l, e.1 < N) (hb : w.heap[b]? = some (mobj K V l c)) (v : β) :
    (Instr.mapUpdate t (.map (some b)) (K a) (V v)).run P w = .ok () (setBlock w b (mobj K V (upd a v c l) (updc a c l))) := by
  have hf := hK.find V a l w ha hl
  have hk : ∀ em, (Instr.checkKey em 10000 kt (K a)).run P w = .ok () w := fun em => hK.check em a w ha
  have hs := fun o => setObj_mine (P := P) (es := (l.map (ent K V)).toArray) (c := c) hb o
  cases hv : fk a l 0 with
  | none =>
    obtain ⟨_, h3⟩ := fk_not a l 0 hv
    have hc : updc a c l = c + 1 := by unfold updc; rw [← fk_lk a l 0, hv]; rfl
    rw [h3, hc]
    simp [Instr.mapUpdate, run_underlying ht, getObj, Sem.run, Sem.run_bind, hb, mobj, Result.andThen, hk, hf, hv]
    have := hs (mobj K V (l ++ [(a, v, c)]) (c + 1))
    simpa [mobj, ent] using this
  | some r =>
    obtain ⟨j, u⟩ := r
    obtain ⟨n, x, rfl, h1, _, h3⟩ := fk_at a l 0 j u hv
    have hc : updc a c l = c := by unfold updc; rw [← fk_lk a l 0, hv]; rfl
    rw [h3, hc]
    have hks : (Instr.keyThatStays (K a) (K a)).run P w = .ok (K a) w := by simp [Instr.keyThatStays, hK.bits]
    have he : (l.map (ent K V)).toArray.modify (0 + n) (fun e => { e with key := K a, val := V v }) = ((l.modify n (fun e => (a, v, e.2.2))).map (ent K V)).toArray := by
      apply Array.ext'
      rw [Array.toList_modify]
      apply List.ext_getElem?
      intro i
      simp only [List.getElem?_modify, List.getElem?_map, Nat.zero_add]
      cases l[i]? with
      | none => simp
      | some y => by_cases hni : n = i <;> simp [hni, ent]
    have ho : mobj K V (l.modify n (fun e => (a, v, e.2.2))) c = .map ((l.map (ent K V)).toArray.modify (0 + n) (fun e => { e with key := K a, val := V v })) c := by rw [mobj, he]
    rw [ho]
    have hq := hs (.map ((l.map (ent K V)).toArray.modify (0 + n) (fun e => { e with key := K a, val := V v })) c)
    simp [Instr.mapUpdate, run_underlying ht, getObj, Sem.run, Sem.run_bind, hb, mobj, Result.andThen, hk, hf, hv, h1, ent, hks]
    simpa [ent] using hq

end

section
variable {P : Program} (w : World) {ops : Array Oper} {rest : List Oper} {o : Oper} {a : Act} {Q : Exit → Act → World → Prop}

theorem wpList_lookup_run (hg : o.guard = none) (m x : Operand) (t : TypeId) (ok : Bool) (hop : o.op = Op.lookup t m x ok) (v : Value) (hrun : (Instr.lookup t (a.eval m) (a.eval x) ok).run P w = .ok v w)
    (hK : wpList P ops Q rest (a.put o.dst v) w) : wpList P ops Q (o :: rest) a w := by
  refine wpList_plain hg fun K' hK' => ?_
  unfold Oper.wp
  simp [execOp, hop, hrun, Result.andThen]
  exact hK' _ _ hK

theorem wpList_update_run (hg : o.guard = none) (m k x : Operand) (t : TypeId) (hop : o.op = Op.mapUpdate t m k x) (w' : World) (hrun : (Instr.mapUpdate t (a.eval m) (a.eval k) (a.eval x)).run P w = .ok () w')
    (hK : wpList P ops Q rest (a.put o.dst (.tuple #[])) w') : wpList P ops Q (o :: rest) a w := by
  refine wpList_plain hg fun K' hK' => ?_
  unfold Oper.wp
  simp [execOp, hop, hrun, Result.andThen]
  exact hK' _ _ hK

end


section
variable {S T : Nat → Prop} {w w' w1 w2 : World}
theorem heap_setBlock_ne (w : World) (b : Nat) (o : Obj) {i : Nat} (h : i ≠ b) : (setBlock w b o).heap[i]? = w.heap[i]? := by
  simp only [setBlock]
  exact Array.getElem?_setIfInBounds_ne (by omega)
theorem heap_setBlock_eq (w : World) (b : Nat) (o : Obj) (h : b < w.heap.size) : (setBlock w b o).heap[b]? = some o := by
  simp only [setBlock]
  rw [Array.getElem?_setIfInBounds_self, if_pos h]
theorem size_setBlock (w : World) (b : Nat) (o : Obj) : (setBlock w b o).heap.size = w.heap.size := by simp [setBlock]
theorem Ot.setBlock (h : Ot S w w') (b : Nat) (o : Obj) (hp : b < w.heap.size → S b) : Ot S w (setBlock w' b o) :=
  h.step (T := fun i => i = b) ⟨rfl, rfl, rfl, by simp [ChangeMaps.setBlock], fun _ _ hk => heap_setBlock_ne _ _ _ hk⟩ (fun i hi hl => by subst hi; exact hp hl)
theorem lt_of_block {w : World} {b : Nat} {o : Obj} (h : w.heap[b]? = some o) : b < w.heap.size := by
  rcases Nat.lt_or_ge b w.heap.size with k | k
  · exact k
  · rw [Array.getElem?_eq_none k] at h; cases h
theorem Ot.obj (h : Ot S w w') {b : Nat} {o : Obj} (hv : w.heap[b]? = some o) (hs : ¬ S b) : w'.heap[b]? = some o := (h.block b (lt_of_block hv) hs).trans hv
end

theorem nm_inj (a b : Nat) (ha : a < 4) (hb : b < 4) : (nm a == nm b) = decide (a = b) := by
  have h : ∀ a, a < 4 → ∀ b, b < 4 → (nm a == nm b) = decide (a = b) := by decide
  exact h a ha b hb

def sk (i : Nat) : Value := .string (nm i)
def ik (i : Nat) : Value := .int .i64 (i : Int)

theorem find_sk {β : Type} (V : β → Value) (a : Nat) (ha : a < 4) : ∀ (l : List (Nat × β × Nat)) (i : Nat), (∀ e ∈ l, e.1 < 4) → Instr.findNow .string (sk a) (l.map (ent sk V)) i = some ((fk a l i).map fun r => (r.1, V r.2))
  | [], i, _ => by simp [Instr.findNow, fk]
  | e :: l, i, hl => by
    have ih := find_sk V a ha l (i + 1) (fun e he => hl e (by simp [he]))
    have he := nm_inj a e.1 ha (hl e (by simp))
    by_cases h : a = e.1
    · have : (nm a == nm e.1) = true := by rw [he]; simp [h]
      simp only [Instr.findNow, List.map_cons, ent, sk, Instr.sameNow, this, fk, if_pos h]
      rfl
    · have : (nm a == nm e.1) = false := by rw [he]; simp [h]
      simp only [Instr.findNow, List.map_cons, ent, sk, Instr.sameNow, this, fk, h, if_false]
      exact ih

theorem keys9 : Keys Ybaf.prog 9 sk 4 := {
  check em a w _ := by
    unfold sk
    kernel_rfl
  find V a l w ha hl := Go.MapKept.run_findKey Ybaf.underlying9 (find_sk V a ha l 0 hl)
  bits a := by
    have : (nm a == nm a) = true := by rw [beq_toListBytes]; exact beq_self_eq_true _
    simp [sk, Instr.sameBits, this] }

theorem find_ik {β : Type} (V : β → Value) (a : Nat) : ∀ (l : List (Nat × β × Nat)) (i : Nat), Instr.findNow (.int .i64) (ik a) (l.map (ent ik V)) i = some ((fk a l i).map fun r => (r.1, V r.2))
  | [], i => by simp [Instr.findNow, fk]
  | e :: l, i => by
    have ih := find_ik V a l (i + 1)
    by_cases h : a = e.1
    · have : ((a : Int) == (e.1 : Int)) = true := by simp [h]
      simp only [Instr.findNow, List.map_cons, ent, ik, Instr.sameNow, this, fk, if_pos h]
      rfl
    · have : ((a : Int) == (e.1 : Int)) = false := by simp; omega
      simp only [Instr.findNow, List.map_cons, ent, ik, Instr.sameNow, this, fk, h, if_false]
      exact ih

theorem keys3 : Keys Ybaf.prog 3 ik 9223372036854775808 := {
  check em a w _ := by
    unfold ik
    kernel_rfl
  find V a l w ha hl := Go.MapKept.run_findKey Ybaf.underlying3 (find_ik V a l 0)
  bits a := by simp [ik, Instr.sameBits] }

section
variable {β : Type} {l : List (Nat × β × Nat)} {c : Nat}

theorem lk_upd (k j : Nat) (v : β) (c : Nat) : ∀ l : List (Nat × β × Nat), lk j (upd k v c l) = if j = k then some v else lk j l
  | [] => by simp [upd, lk]
  | e :: l => by
    have ih := lk_upd k j v c l
    unfold upd
    by_cases h : k = e.1
    · rw [if_pos h]
      by_cases hj : j = k
      · simp [lk, hj]
      · have : ¬ j = e.1 := by omega
        simp [lk, hj, this]
    · rw [if_neg h]
      by_cases hj : j = e.1
      · simp [lk, hj]
        intro he; omega
      · simp [lk, hj, ih]

theorem upd_keys (k : Nat) (v : β) (c N : Nat) (hk : k < N) : ∀ l : List (Nat × β × Nat), (∀ e ∈ l, e.1 < N) → ∀ e ∈ upd k v c l, e.1 < N
  | [], _ => by simp [upd, hk]
  | a :: l, h => by
    unfold upd
    split
    · intro e he
      rcases List.mem_cons.1 he with rfl | he
      · exact hk
      · exact h e (by simp [he])
    · intro e he
      rcases List.mem_cons.1 he with rfl | he
      · exact h _ (by simp)
      · exact upd_keys k v c N hk l (fun e he => h e (by simp [he])) e he
end

end Go.Proofs.YbulkdjggFmt
