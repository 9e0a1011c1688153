/-
  THE LAW's OWN STATE: the two kinds of maps while they are filled, the eight marks 'present'.
-/
import Derived.Test.YbulkdjcmJ
namespace Go.Proofs.Ybulkdjcm
open Go.RowKit Go.ChangeMaps Go.Sort

/-- The publishes that came in. -/
structure Er (w : World) (a1 : Option Addr) (b off : Nat) (E : List Ent) : Prop where
  addr : 0 < E.length → a1 = some ⟨b, off, none⟩
  lt : 0 < E.length → b < w.heap.size
  name : ∀ j, j < E.length → w.cell? ⟨b, off + j * 3, none⟩ = some (.int .u8 (ea E j).1)
  port : ∀ j, j < E.length → w.cell? ⟨b, off + j * 3 + 1, none⟩ = some (.int .u16 (ea E j).2.1)
  ago : ∀ j, j < E.length → w.cell? ⟨b, off + j * 3 + 2, none⟩ = some (.int .i16 (ea E j).2.2)
  names : ∀ j, j < E.length → (ea E j).1 < 256
  ports : ∀ j, j < E.length → (ea E j).2.1 < 65536
  agos : ∀ j, j < E.length → -32768 ≤ (ea E j).2.2 ∧ (ea E j).2.2 ≤ 32767

theorem below_setBlock {B : Nat} {w w' : World} (h : Below B w w') (b : Nat) (o : Obj) (hb : B ≤ b) : Below B w (setBlock w' b o) :=
  ⟨h.os, h.tape, h.output, by rw [size_setBlock]; exact h.size, fun k hk => by rw [heap_setBlock_ne _ _ _ (by omega)]; exact h.block k hk⟩

def keys (O : List (Nat × Nat × Nat)) : List Nat := O.map (·.1)

/-- The maps, the publishes es having been taken in: the outer map lies in block w.heap.size. -/
structure Pb (w wr : World) (n : Int) (O : List (Nat × Nat × Nat)) (ck : Nat) (es : List Ent) : Prop where
  pubs : wr.heap[w.heap.size]? = some (mobj sk VO O ck)
  wf : WF O ck
  low : ∀ e ∈ O, e.1 < 8
  map : ∀ e ∈ O, wr.heap[e.2.1]? = some (mobj pk (tv n) (st e.1 es).1 (st e.1 es).2)
  inj : ∀ e ∈ O, ∀ e' ∈ O, e.2.1 = e'.2.1 → e = e'
  new : ∀ e ∈ O, w.heap.size + 1 < e.2.1
  all : ∀ e ∈ es, e.1 % 8 ∈ keys O
  below : Below w.heap.size w wr
  room : w.heap.size + 1 < wr.heap.size

/-- The marks, in block c. -/
def Pres (wr : World) (c : Nat) (O : List (Nat × Nat × Nat)) : Prop := ∀ j, j < 8 → wr.cell? ⟨c, j, none⟩ = some (.bool (decide (j ∈ keys O))) ∧ wr.frozen? ⟨c, j, none⟩ = false

section
variable {w wr wr' : World} {n : Int} {O O' : List (Nat × Nat × Nat)} {ck : Nat} {es : List Ent}

theorem Pb.far (h : Pb w wr n O ck es) {S : Nat → Prop} (ho : Ot S wr wr') (hS : ∀ k, S k → w.heap.size < k ∧ ∀ e ∈ O, k ≠ e.2.1) : Pb w wr' n O ck es := {
  pubs := ho.obj h.pubs (fun hs => by have := hS _ hs; omega)
  wf := h.wf
  low := h.low
  map e he := ho.obj (h.map e he) (fun hs => (hS _ hs).2 e he rfl)
  inj := h.inj
  new := h.new
  all := h.all
  below := h.below.trans (ho.below h.below.size (fun i hi => by have := hS _ hi; omega))
  room := Nat.lt_of_lt_of_le h.room ho.size }

theorem Pb.ot (h : Pb w wr n O ck es) {S : Nat → Prop} (ho : Ot S wr wr') (hS : ∀ k, S k → k = w.heap.size + 1) : Pb w wr' n O ck es :=
  h.far ho (fun k hk => by
    have := hS k hk
    exact ⟨by omega, fun e he => by have := h.new e he; omega⟩)

theorem Pres.ot {c : Nat} (h : Pres wr c O) {S : Nat → Prop} (ho : Ot S wr wr') (hS : ¬ S c) : Pres wr' c O := fun j hj => by
  have h1 := h j hj
  exact ⟨ho.cellv h1.1 hS, (ho.frozen (p := ⟨c, j, none⟩) (World.block_lt_of_cell? _ _ h1.1) hS).trans h1.2⟩

theorem Pres.set {c i : Nat} (h : Pres wr c O) (hi : i < 8) (hk : ∀ j, j ∈ keys O' ↔ j = i ∨ j ∈ keys O) : Pres (wr.setCell ⟨c, i, none⟩ (.bool true)) c O' := fun j hj => by
  have h1 := h j hj
  refine ⟨?_, by rw [World.frozen?_setCell]; exact h1.2⟩
  by_cases hij : j = i
  · subst hij
    rw [World.cell?_setCell_same _ _ _ h1.1]
    simp [hk]
  · have hne : (⟨c, i, none⟩ : Addr) ≠ ⟨c, j, none⟩ := fun h => hij (by cases h; rfl)
    rw [World.cell?_setCell_other _ _ _ _ hne, h1.1]
    have : j ∈ keys O' ↔ j ∈ keys O := by rw [hk]; simp [hij]
    simp only [this]

theorem Pb.make (h : Pb w wr n O ck es) {i : Nat} (hi : i < 8) (hk : i ∉ keys O) : 
    upd i wr.heap.size ck O = O ++ [(i, wr.heap.size, ck)] ∧ updc i ck O = ck + 1 ∧ Pb w (setBlock (wr.alloc (.map #[] 0)) w.heap.size (mobj sk VO (O ++ [(i, wr.heap.size, ck)]) (ck + 1))) n (O ++ [(i, wr.heap.size, ck)]) (ck + 1) es := by
  have hne : ∀ x ∈ O, x.1 ≠ i := fun x hx he => hk (by rw [← he]; exact List.mem_map_of_mem hx)
  have hst : st i es = ([], 0) := st_none (fun e he h2 => hk (by rw [← h2]; exact h.all e he))
  obtain ⟨e1, e2⟩ := upd_new (v := wr.heap.size) (c := ck) hne
  have hbl := lt_of_block h.pubs
  have hw := h.wf.upd i wr.heap.size
  rw [e1, e2] at hw
  have hlt : ∀ e ∈ O, e.2.1 < wr.heap.size := fun e he => lt_of_block (h.map e he)
  have hb1 := (h.below.alloc h.below.size (.map #[] 0))
  refine ⟨e1, e2, ?_, hw, fun e he => ?_, fun e he => ?_, fun e he e' he' hee => ?_, fun e he => ?_, fun e he => ?_, below_setBlock hb1 _ _ (Nat.le_refl _), by rw [size_setBlock]; have := h.room; simp; omega⟩
  · exact heap_setBlock_eq _ _ _ (by simp; omega)
  · rcases List.mem_append.1 he with he | he
    · exact h.low e he
    · simp at he
      subst he
      exact hi
  · rcases List.mem_append.1 he with he | he
    · have := h.new e he
      rw [heap_setBlock_ne _ _ _ (by omega), Below.heap_alloc _ _ _ (hlt e he)]
      exact h.map e he
    · simp at he
      subst he
      rw [heap_setBlock_ne _ _ _ (by simp; omega), heap_alloc_new, hst]
      rfl
  · rcases List.mem_append.1 he with he | he <;> rcases List.mem_append.1 he' with he' | he'
    · exact h.inj e he e' he' hee
    · simp at he'
      subst he'
      have := hlt e he
      simp at hee
      omega
    · simp at he
      subst he
      have := hlt e' he'
      simp at hee
      omega
    · simp at he he'
      rw [he, he']
  · rcases List.mem_append.1 he with he | he
    · exact h.new e he
    · simp at he
      subst he
      exact h.room
  · have := h.all e he
    unfold keys at this ⊢
    rw [List.map_append]
    exact List.mem_append_left _ this

theorem Pb.start (w : World) (n : Int) (o : Obj) : Pb w ((w.alloc (.map #[] 0)).alloc o) n [] 0 [] := {
  pubs := by
    rw [Below.heap_alloc _ _ _ (by simp), heap_alloc_new]
    rfl
  wf := WF.nil
  low := fun e he => by cases he
  map := fun e he => by cases he
  inj := fun e he => by cases he
  new := fun e he => by cases he
  all := fun e he => by cases he
  below := ((Below.refl _ _).alloc (Nat.le_refl _) _).alloc (by simp) _
  room := by simp }

theorem Pb.put (h : Pb w wr n O ck es) {e : Ent} {k b s : Nat} (hm : (k, b, s) ∈ O) (hk : e.1 % 8 = k) :
    Pb w (setBlock wr b (mobj pk (tv n) (upd e.2.1 e.2.2 (st k es).2 (st k es).1) (updc e.2.1 (st k es).2 (st k es).1))) n O ck (es ++ [e]) := {
  pubs := by
    have := h.new _ hm
    simp at this
    rw [heap_setBlock_ne _ _ _ (by omega)]
    exact h.pubs
  wf := h.wf
  low := h.low
  map x hx := by
    by_cases hb : x.2.1 = b
    · have : x = (k, b, s) := h.inj x hx _ hm hb
      subst this
      simp only
      rw [heap_setBlock_eq _ _ _ (lt_of_block (h.map _ hm)), st_same hk]
    · have hne : x.1 ≠ k := fun hxk => hb (by rw [h.wf.key_eq hx hm hxk])
      rw [heap_setBlock_ne _ _ _ hb, st_other (by omega)]
      exact h.map x hx
  inj := h.inj
  new := h.new
  all x hx := by
    rcases List.mem_append.1 hx with hx | hx
    · exact h.all x hx
    · simp at hx
      subst hx
      rw [hk]
      exact List.mem_map_of_mem hm
  below := by
    have := h.new _ hm
    simp at this
    exact below_setBlock h.below _ _ (by omega)
  room := by rw [size_setBlock]; exact h.room }
end

theorem Ot.both {w1 W : World} {k : Nat} (h : Ot (fun j => j = k) w1 W) (hk : k < w1.heap.size) (o : Obj) : Ot (fun _ => False) (ChangeMaps.setBlock w1 k o) (ChangeMaps.setBlock W k o) :=
  ⟨h.os, h.tape, h.output, by rw [size_setBlock, size_setBlock]; exact h.size, fun j hj _ => by
    rw [size_setBlock] at hj
    by_cases he : j = k
    · subst he
      rw [heap_setBlock_eq _ _ _ hk, heap_setBlock_eq _ _ _ (Nat.lt_of_lt_of_le hk h.size)]
    · rw [heap_setBlock_ne _ _ _ he, heap_setBlock_ne _ _ _ he]
      exact h.block j hj he⟩

/-- While an inner map in block k is written: nothing else has turned; the block holds the one or the other. -/
def Two (k : Nat) (o1 o2 : Obj) (w1 W : World) : Prop := Ot (fun j => j = k) w1 W ∧ (W.heap[k]? = some o1 ∨ W.heap[k]? = some o2)
theorem Two.call {k : Nat} {o1 o2 : Obj} {w1 W w' : World} (h : Two k o1 o2 w1 W) (hb : Below W.heap.size W w') : Two k o1 o2 w1 w' := by
  have ho := Ot.of_below (fun _ => False) hb
  exact ⟨h.1.step ho (fun _ hf _ => hf.elim), h.2.imp (fun h => ho.obj h (fun hf => hf)) (fun h => ho.obj h (fun hf => hf))⟩
theorem Two.drew {k : Nat} {o1 o2 : Obj} {w1 W : World} (h : Two k o1 o2 w1 W) : Two k o1 o2 w1 W.drew := ⟨h.1.drew, h.2⟩
theorem Two.set {k : Nat} {o1 o2 : Obj} {w1 W : World} (h : Two k o1 o2 w1 W) : Two k o1 o2 w1 (setBlock W k o2) :=
  ⟨h.1.setBlock _ _ (fun _ => rfl), .inr (heap_setBlock_eq _ _ _ (by rcases h.2 with h | h <;> exact lt_of_block h))⟩
/-- The write, before and behind itself. -/
theorem Two.run {k c p : Nat} {n ago : Int} {l : List (Nat × Int × Nat)} {w1 W : World} (h : Two k (mobj pk (tv n) l c) (mobj pk (tv n) (upd p ago c l) (updc p c l)) w1 W) (hp : p < 65536) (hl : ∀ e ∈ l, e.1 < 65536) :
    (Instr.mapUpdate 28 (.map (some k)) (.agg #[.int .u64 0, .int .u64 0, .pointer none, .int .u16 p]) (.int .i64 (wrap64 (n - ago * 60000000000)))).run Yba.prog W = .ok () (setBlock W k (mobj pk (tv n) (upd p ago c l) (updc p c l))) := by
  rcases h.2 with h | h
  · exact run_update_mine (P := Yba.prog) (K := pk) (V := tv n) Yba.underlying28 keys43 hp hl h ago
  · have := run_update_mine (P := Yba.prog) (K := pk) (V := tv n) Yba.underlying28 keys43 hp (fun e he => by
      rcases upd_keys _ _ _ _ _ he with h1 | h1
      · rw [h1.1]; exact hp
      · exact hl e h1) h ago
    rw [upd_upd, updc_upd] at this
    exact this

theorem wr3 (n a : Int) : IntKind.i64.wrap (n - IntKind.i64.wrap (IntKind.i64.wrap a * 60000000000)) = wrap64 (n - a * 60000000000) := by
  have e : ∀ x, IntKind.i64.wrap x = wrap64 x := fun x => by
    have hs : IntKind.i64.signed = true := rfl
    have hb : IntKind.i64.bits = 64 := rfl
    simp only [IntKind.wrap, wrap64, hs, hb, Bool.true_and]
    have h2 : ((2 : Int) ^ 64) = 18446744073709551616 := by decide
    have h3 : ((2 : Int) ^ (64 - 1)) = 9223372036854775808 := by decide
    rw [h2, h3]
    split
    · rename_i h
      simp at h
      omega
    · rename_i h
      simp at h
      omega
  rw [e, e, e]
  unfold wrap64
  omega

theorem name_at (i : Nat) (hi : i < 8) (w : World) : Calls Yba.prog 4 #[.int .i64 i] w fun e w' => e = .returned (.string (nm i)) ∧ w = w' :=
  (name_any i hi w).mono fun _ _ h => ⟨h.1, h.2.symm⟩
theorem addr_at (p : Nat) (w : World) : Calls Yba.prog 5 #[.int .u16 p] w fun e w' => e = .returned (.agg #[.int .u64 0, .int .u64 0, .pointer none, .int .u16 p]) ∧ Below w.heap.size w w' := addr_any p w
theorem unhide {p : Prop} (h : Hid p) : p := h

/-- Is name j listed? -/
def ls (m : Nat) (O : List (Nat × Nat × Nat)) (j : Nat) : Bool := decide (bits BinOp.and IntKind.u8 ((m : Int) / 2 ^ j) 1 = 1) || decide (j ∈ keys O)
def Mo (w : World) (base : Nat) (v : Value) (M : List Nat) : Prop := w.ownsRow base 9 1 v M.length (M.map sk)
theorem Mo.nil (w : World) (base : Nat) : Mo w base (.slice none 0 0) [] := ⟨by simp, .inl ⟨rfl, rfl⟩⟩
theorem Ot.of_grown {a c : World} {row : Option Nat} (h : a.grownBy c row) : Ot (fun k => row = some k) a c := ⟨h.os, h.tape, h.output, h.size, fun i hi hn => h.block i hi (fun he => hn he.symm)⟩
theorem filter_range_succ (p : Nat → Bool) (i : Nat) : (List.range (i + 1)).filter p = (List.range i).filter p ++ (if p i then [i] else []) := by
  rw [List.range_succ, List.filter_append, one_filter]
theorem Yba.info9p : (Yba.prog.info? 9).map (fun i => (i.zero, i.size, i.bytes)) = some (some (.string ⟨#[]⟩), 1, 16) := by kernel_rfl

end Go.Proofs.Ybulkdjcm
