/-
  A SMALL THEORY OF A MAP's BLOCK: the entries are a plain list of (key, value, stamp); keys by an injective reading.
-/
import Derived.Test.YbulkdjcmA
import Derived.Maps.RangeWalk
import Derived.Maps.OwnSet
import Derived.WideKeyRuns
namespace Go.Proofs.Ybulkdjcm
open Go.RowKit Go.ChangeMaps

def ent {β : Type} (K : Nat → Value) (V : β → Value) (x : Nat × β × Nat) : MapEntry := { key := K x.1, val := V x.2.1, born := x.2.2 }
def mobj {β : Type} (K : Nat → Value) (V : β → Value) (l : List (Nat × β × Nat)) (c : Nat) : Obj := .map (l.map (ent K V)).toArray c
def fk {β : Type} (k : Nat) : List (Nat × β × Nat) → Nat → Option (Nat × β)
  | [], _ => none
  | e :: l, i => if k = e.1 then some (i, e.2.1) else fk k l (i + 1)
def lk {β : Type} (k : Nat) : List (Nat × β × Nat) → Option β
  | [] => none
  | e :: l => if k = e.1 then some e.2.1 else lk k l
def del {β : Type} (k : Nat) : List (Nat × β × Nat) → List (Nat × β × Nat)
  | [] => []
  | e :: l => if k = e.1 then l else e :: del k l
def upd {β : Type} (k : Nat) (v : β) (c : Nat) : List (Nat × β × Nat) → List (Nat × β × Nat)
  | [] => [(k, v, c)]
  | e :: l => if k = e.1 then (k, v, e.2.2) :: l else e :: upd k v c l
def updc {β : Type} (k : Nat) (c : Nat) (l : List (Nat × β × Nat)) : Nat := if (lk k l).isSome then c else c + 1

theorem fk_lk {β : Type} (k : Nat) : ∀ (l : List (Nat × β × Nat)) (i : Nat), (fk k l i).map (·.2) = lk k l
  | [], _ => rfl
  | e :: l, i => by
    unfold fk lk
    split
    · rfl
    · exact fk_lk k l (i + 1)

theorem fk_at {β : Type} (k : Nat) : ∀ (l : List (Nat × β × Nat)) (i j : Nat) (v : β), fk k l i = some (j, v) →
    ∃ n x, j = i + n ∧ l[n]? = some (k, v, x) ∧ del k l = l.eraseIdx n ∧ ∀ u c, upd k u c l = l.modify n (fun e => (k, u, e.2.2))
  | [], _, _, _, h => by simp [fk] at h
  | e :: l, i, j, v, h => by
    unfold fk at h
    split at h
    · rename_i hk
      simp at h
      obtain ⟨rfl, rfl⟩ := h
      refine ⟨0, e.2.2, rfl, by simp [hk], by simp [del, hk], fun u c => by simp [upd, hk]⟩
    · rename_i hk
      obtain ⟨n, x, rfl, h1, h2, h3⟩ := fk_at k l (i + 1) j v h
      exact ⟨n + 1, x, by omega, by simpa using h1, by simp [del, hk, h2], fun u c => by simp [upd, hk, h3]⟩

theorem fk_not {β : Type} (k : Nat) : ∀ (l : List (Nat × β × Nat)) (i : Nat), fk k l i = none → del k l = l ∧ ∀ u c, upd k u c l = l ++ [(k, u, c)]
  | [], _, _ => by simp [del, upd]
  | e :: l, i, h => by
    unfold fk at h
    split at h
    · simp at h
    · rename_i hk
      obtain ⟨h2, h3⟩ := fk_not k l (i + 1) h
      exact ⟨by simp [del, hk, h2], fun u c => by simp [upd, hk, h3]⟩

theorem map_erase {α γ : Type} (f : α → γ) : ∀ (l : List α) (n : Nat), (l.map f).eraseIdx n = (l.eraseIdx n).map f
  | [], _ => by simp
  | x :: l, 0 => by simp
  | x :: l, n + 1 => by simp [map_erase f l n]

/-- What is asked of the keys' reading. -/
structure Keys (P : Program) (kt : TypeId) (K : Nat → Value) (N : Nat) : Prop where
  check : ∀ (em : Bool) (a : Nat) (w : World), a < N → (Instr.checkKey em 10000 kt (K a)).run P w = .ok () w
  find : ∀ {β : Type} (V : β → Value) (a : Nat) (l : List (Nat × β × Nat)) (w : World), a < N → (∀ e ∈ l, e.1 < N) → (Instr.findKey kt (K a) (l.map (ent K V))).run P w = .ok ((fk a l 0).map fun r => (r.1, V r.2)) w
  bits : ∀ a, Instr.sameBits 10000 (K a) (K a) = true

section
variable {P : Program} {w : World} {t kt et : TypeId} {β : Type} {K : Nat → Value} {V : β → Value} {N a b c : Nat} {l : List (Nat × β × Nat)}

theorem run_lookup_mine (ht : P.underlying t = some (.map kt et)) (hK : Keys P kt K N) (ha : a < N) (hl : ∀ e ∈ l, e.1 < N) (hb : w.heap[b]? = some (mobj K V l c)) (z : Value) (hz : (zeroValue et).run P w = .ok z w) (ok : Bool) :
    (Instr.lookup t (.map (some b)) (K a) ok).run P w = .ok (if ok then .tuple #[((lk a l).map V).getD z, .bool (lk a l).isSome] else ((lk a l).map V).getD z) w := by
  have hf := hK.find V a l w ha hl
  have hk : ∀ em, (Instr.checkKey em 10000 kt (K a)).run P w = .ok () w := fun em => hK.check em a w ha
  rw [← fk_lk a l 0]
  cases hv : fk a l 0 with
  | none => cases ok <;> simp [Instr.lookup, run_underlying ht, getObj, Sem.run, Sem.run_bind, hb, mobj, Result.andThen, hk, hf, hv, hz]
  | some r => cases ok <;> simp [Instr.lookup, run_underlying ht, getObj, Sem.run, Sem.run_bind, hb, mobj, Result.andThen, hk, hf, hv]

theorem setObj_mine {es : Array MapEntry} (hb : w.heap[b]? = some (.map es c)) (o : Obj) : (setObj b o).run P w = .ok () (setBlock w b o) := by
  simp [setObj, Sem.run, hb, setBlock]

theorem run_update_mine (ht : P.underlying t = some (.map kt et)) (hK : Keys P kt K N) (ha : a < N) (hl : ∀ e ∈ l, e.1 < N) (hb : w.heap[b]? = some (mobj K V l c)) (v : β) :
    (Instr.mapUpdate t (.map (some b)) (K a) (V v)).run P w = .ok () (setBlock w b (mobj K V (upd a v c l) (updc a c l))) := by
  have hf := hK.find V a l w ha hl
  have hk : ∀ em, (Instr.checkKey em 10000 kt (K a)).run P w = .ok () w := fun em => hK.check em a w ha
  have hs := fun o => setObj_mine (P := P) (es := (l.map (ent K V)).toArray) (c := c) hb o
  cases hv : fk a l 0 with
  | none =>
    obtain ⟨_, h3⟩ := fk_not a l 0 hv
    have hc : updc a c l = c + 1 := by unfold updc; rw [← fk_lk a l 0, hv]; rfl
    rw [h3, hc]
    simp [Instr.mapUpdate, run_underlying ht, getObj, Sem.run, Sem.run_bind, hb, mobj, Result.andThen, hk, hf, hv]
    have := hs (mobj K V (l ++ [(a, v, c)]) (c + 1))
    simpa [mobj, ent] using this
  | some r =>
    obtain ⟨j, u⟩ := r
    obtain ⟨n, x, rfl, h1, _, h3⟩ := fk_at a l 0 j u hv
    have hc : updc a c l = c := by unfold updc; rw [← fk_lk a l 0, hv]; rfl
    rw [h3, hc]
    have hks : (Instr.keyThatStays (K a) (K a)).run P w = .ok (K a) w := by simp [Instr.keyThatStays, hK.bits]
    have he : (l.map (ent K V)).toArray.modify (0 + n) (fun e => { e with key := K a, val := V v }) = ((l.modify n (fun e => (a, v, e.2.2))).map (ent K V)).toArray := by
      apply Array.ext'
      rw [Array.toList_modify]
      apply List.ext_getElem?
      intro i
      simp only [List.getElem?_modify, List.getElem?_map, Nat.zero_add]
      cases l[i]? with
      | none => simp
      | some y => by_cases hni : n = i <;> simp [hni, ent]
    have ho : mobj K V (l.modify n (fun e => (a, v, e.2.2))) c = .map ((l.map (ent K V)).toArray.modify (0 + n) (fun e => { e with key := K a, val := V v })) c := by rw [mobj, he]
    rw [ho]
    have hq := hs (.map ((l.map (ent K V)).toArray.modify (0 + n) (fun e => { e with key := K a, val := V v })) c)
    simp [Instr.mapUpdate, run_underlying ht, getObj, Sem.run, Sem.run_bind, hb, mobj, Result.andThen, hk, hf, hv, h1, ent, hks]
    simpa [ent] using hq

theorem run_delete_mine (ht : P.underlying t = some (.map kt et)) (hK : Keys P kt K N) (ha : a < N) (hl : ∀ e ∈ l, e.1 < N) (hb : w.heap[b]? = some (mobj K V l c)) (ty : TypeId) :
    (Builtin.delete_ #[t, kt] ty #[.map (some b), K a]).run P w = .ok (.tuple #[]) (setBlock w b (mobj K V (del a l) c)) := by
  have hf := hK.find V a l w ha hl
  have hk : ∀ em, (Instr.checkKey em 10000 kt (K a)).run P w = .ok () w := fun em => hK.check em a w ha
  have hs := fun o => setObj_mine (P := P) (es := (l.map (ent K V)).toArray) (c := c) hb o
  cases hv : fk a l 0 with
  | none =>
    obtain ⟨h2, _⟩ := fk_not a l 0 hv
    rw [h2]
    simp [Builtin.delete_, run_underlying ht, getObj, Sem.run, Sem.run_bind, hb, mobj, Result.andThen, hk, hf, hv]
    have := hs (mobj K V l c)
    simp [mobj] at this
    simp [this]
  | some r =>
    obtain ⟨j, u⟩ := r
    obtain ⟨n, x, rfl, h1, h2, _⟩ := fk_at a l 0 j u hv
    rw [h2]
    have he : (l.map (ent K V)).toArray.eraseIdxIfInBounds (0 + n) = ((l.eraseIdx n).map (ent K V)).toArray := by
      apply Array.ext'
      simp [map_erase]
    simp only [Builtin.delete_, run_underlying ht, getObj, Sem.run, Sem.run_bind, hb, mobj, Result.andThen, hk, hf, hv, Option.map_some, List.getElem?_toArray, List.getElem?_cons_zero, List.getElem?_cons_succ]
    rw [he]
    have := hs (mobj K V (l.eraseIdx n) c)
    simp [mobj] at this
    simp [this]

end

section
variable {P : Program} (w : World) {ops : Array Oper} {rest : List Oper} {o : Oper} {a : Act} {Q : Exit → Act → World → Prop}

theorem wpList_lookup_run (hg : o.guard = none) (m x : Operand) (t : TypeId) (ok : Bool) (hop : o.op = Op.lookup t m x ok) (v : Value) (hrun : (Instr.lookup t (a.eval m) (a.eval x) ok).run P w = .ok v w)
    (hK : wpList P ops Q rest (a.put o.dst v) w) : wpList P ops Q (o :: rest) a w := by
  refine wpList_plain hg fun K' hK' => ?_
  unfold Oper.wp
  simp [execOp, hop, hrun, Result.andThen]
  exact hK' _ _ hK

theorem wpList_update_run (hg : o.guard = none) (m k x : Operand) (t : TypeId) (hop : o.op = Op.mapUpdate t m k x) (w' : World) (hrun : (Instr.mapUpdate t (a.eval m) (a.eval k) (a.eval x)).run P w = .ok () w')
    (hK : wpList P ops Q rest (a.put o.dst (.tuple #[])) w') : wpList P ops Q (o :: rest) a w := by
  refine wpList_plain hg fun K' hK' => ?_
  unfold Oper.wp
  simp [execOp, hop, hrun, Result.andThen]
  exact hK' _ _ hK

theorem wpList_delete_run (hg : o.guard = none) (m x : Operand) (t k : TypeId) (hop : o.op = Op.call { callee := Callee.builtin Builtin.delete, args := #[m, x], argTypes := #[t, k] }) (w' : World)
    (hrun : (Builtin.delete_ #[t, k] o.type #[a.eval m, a.eval x]).run P w = .ok (.tuple #[]) w')
    (hK : wpList P ops Q rest (a.put o.dst (.tuple #[])) w') : wpList P ops Q (o :: rest) a w := by
  refine wpList_plain hg fun K' hK' => ?_
  unfold Oper.wp
  simp [execOp, hop, resolve, invoke, builtin, hrun, Result.andThen]
  exact hK' _ _ hK
end

end Go.Proofs.Ybulkdjcm
