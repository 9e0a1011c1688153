/-
  For the law (3): a block of her body, by its number; copies into fresh blocks.
-/
import Derived.Test.YbulkdjggFmtZ
import Derived.Laws.IdiomCopy
import Derived.Deep.CutBlock
import Derived.Deep.DeepCutAuto
namespace Go.Proofs.YbulkdjggFmt
open Go.RowKit Go.Sort Go.ChangeMaps

def blk (n : Nat) : Code → Option Code
  | .block m c => if m = n then some (.block m c) else blk n c
  | .seq a b => match blk n a with
    | some c => some c
    | none => blk n b
  | .cond _ a b => match blk n a with
    | some c => some c
    | none => blk n b
  | .loop c => blk n c
  | .scope c => blk n c
  | _ => none

theorem run_copy_k {P : Program} (w : World) (dT sT ty elem k n : Nat) (b dCap : Nat) (a : Addr) (sCap : Nat) (cs : List Value)
    (hu : P.underlying dT = some (.slice elem)) (hs : (P.info? elem).map (·.size) = some k) (hn : cs.length = n * k)
    (hsrc : ∀ j v, cs[j]? = some v → w.cell? (a.add j) = some v) (hc : ∀ j, j < cs.length → (w.cell? ⟨b, j, none⟩).isSome = true) (hf : ∀ j, j < cs.length → w.frozen? ⟨b, j, none⟩ = false) (h1 : ∀ v ∈ cs, v.oneCell' = true) :
    (Builtin.copy_ #[dT, sT] ty #[.slice (some ⟨b, 0, none⟩) n dCap, .slice (some a) n sCap]).run P w = .ok (.int .i64 n) (w.setCells b 0 cs) := by
  have hl := run_loadCells_list (P := P) w a cs hsrc
  have hst := run_storeCells_cells (P := P) b 0 cs 0 w (by simpa using hc) (by simpa using hf) h1
  cases hq : P.info? elem with
  | none => simp [hq] at hs
  | some i =>
    have hi : i.size = k := by simpa [hq] using hs
    have hm : Nat.min n n = n := Nat.min_self n
    rw [hn] at hl
    simp [Builtin.copy_, run_underlying hu, Builtin.lenOf, Builtin.firstCells, sizeOf, typeInfo, hq, hi, hm, hl, hst, goInt]

/-- A []uint64 handed in. -/
def RowIn (W : World) (v : Value) (xs : List Nat) : Prop := ∃ ao cap, v = .slice ao xs.length cap ∧ (0 < xs.length → ∃ g o, ao = some ⟨g, o, none⟩ ∧ ∀ j, j < xs.length → W.cell? ⟨g, o + j, none⟩ = some (.int .u64 (xs.getD j 0)))
/-- A [][]uint64 handed in. -/
def PlIn (W : World) (pa : Option Addr) (X : List (List Nat)) : Prop := 0 < X.length → ∃ b o, pa = some ⟨b, o, none⟩ ∧ ∀ i, i < X.length → ∃ v, W.cell? ⟨b, o + i, none⟩ = some v ∧ RowIn W v (X.getD i [])

theorem RowIn.below {W W' : World} {v : Value} {xs : List Nat} (h : RowIn W v xs) (hb : Below W.heap.size W W') : RowIn W' v xs := by
  obtain ⟨ao, cap, h1, h2⟩ := h
  refine ⟨ao, cap, h1, fun h0 => ?_⟩
  obtain ⟨g, o, h3, h4⟩ := h2 h0
  exact ⟨g, o, h3, fun j hj => (hb.cell (World.block_lt_of_cell? _ _ (h4 j hj))).trans (h4 j hj)⟩
theorem PlIn.below {W W' : World} {pa : Option Addr} {X : List (List Nat)} (h : PlIn W pa X) (hb : Below W.heap.size W W') : PlIn W' pa X := fun h0 => by
  obtain ⟨b, o, h1, h2⟩ := h h0
  refine ⟨b, o, h1, fun i hi => ?_⟩
  obtain ⟨v, h3, h4⟩ := h2 i hi
  exact ⟨v, (hb.cell (World.block_lt_of_cell? _ _ h3)).trans h3, h4.below hb⟩

/-- What is laid into a fresh block. -/
theorem fresh_copy {W : World} {b e : Nat} {Z : Array Value} {cs : List Value} (hb : b = W.heap.size) (hZ : cs.length ≤ Z.size) :
    (∀ j, j < cs.length → ((W.alloc (.cells Z e)).cell? ⟨b, j, none⟩).isSome = true) ∧ (∀ j, (W.alloc (.cells Z e)).frozen? ⟨b, j, none⟩ = false) ∧
    (∀ j v, cs[j]? = some v → ((W.alloc (.cells Z e)).setCells b 0 cs).cell? ⟨b, j, none⟩ = some v) ∧ (∀ j, ((W.alloc (.cells Z e)).setCells b 0 cs).frozen? ⟨b, j, none⟩ = false) ∧ Below W.heap.size W ((W.alloc (.cells Z e)).setCells b 0 cs) := by
  have h1 : ∀ j, j < cs.length → ((W.alloc (.cells Z e)).cell? ⟨b, j, none⟩).isSome = true := fun j hj => by
    rw [World.cell?_alloc_at _ _ _ _ hb, Array.getElem?_eq_getElem (show j < Z.size by omega)]; rfl
  have h2 : ∀ j, (W.alloc (.cells Z e)).frozen? ⟨b, j, none⟩ = false := fun j => World.frozen?_alloc_at _ _ _ _ hb
  refine ⟨h1, h2, fun j v hv => ?_, fun j => ?_, ?_⟩
  · have hj : j < cs.length := (List.getElem?_eq_some_iff.1 hv).1
    have := World.cell?_setCells_in b cs 0 (W.alloc (.cells Z e)) (fun j hj => by rw [Nat.zero_add]; exact h1 j hj) j hj
    rw [Nat.zero_add] at this
    rw [this, ← hv, List.getElem?_eq_getElem hj]
  · rw [World.frozen?_setCells]; exact h2 j
  · exact (below_alloc W _).trans ((ot_setCells b cs 0 _).below (by simp) (fun k hk => by omega))

theorem add_at (b o j : Nat) : (⟨b, o, none⟩ : Addr).add j = ⟨b, o + j, none⟩ := by
  rcases Nat.eq_zero_or_pos j with h | h
  · subst h; simp [Addr.add]
  · have h' : ¬ j = 0 := by omega
    simp [Addr.add, h']

/-- The ring's nodes are copied. -/
theorem copy_names {W : World} {nb n cn b2 : Nat} (hs : ∀ i, i < n → W.cell? ⟨nb, i, none⟩ = some (.string (nm i))) (hc : ∀ j, j < n → (W.cell? ⟨b2, j, none⟩).isSome = true) (hf : ∀ j, W.frozen? ⟨b2, j, none⟩ = false) (ty : Nat) :
    (Builtin.copy_ #[23, 23] ty #[.slice (some ⟨b2, 0, none⟩) n n, .slice (some ⟨nb, 0, none⟩) n cn]).run Ybaf.prog W = .ok (.int .i64 n) (W.setCells b2 0 ((List.range n).map fun i => Value.string (nm i))) := by
  refine run_copy_k W 23 23 ty 9 1 n b2 n ⟨nb, 0, none⟩ cn _ Ybaf.underlying23 (by kernel_rfl) (by simp) (fun j u hu => ?_) (fun j hj => hc j (by simpa using hj)) (fun j _ => hf j) (fun v hv => by obtain ⟨i, _, rfl⟩ := List.mem_map.1 hv; rfl)
  rw [List.getElem?_map] at hu
  rcases Nat.lt_or_ge j n with h | h
  · rw [List.getElem?_range h] at hu
    simp only [Option.map_some, Option.some.injEq] at hu
    subst hu
    rw [add_at, Nat.zero_add]; exact hs j h
  · rw [List.getElem?_eq_none (by simpa using h)] at hu
    simp at hu

/-- The ring's points are copied. -/
theorem copy_points {W : World} {pb cp b2 : Nat} {pts : Array Pt} (hs : HoldsK enc 2 W pb 0 pts) (hc : ∀ j, j < pts.size * 2 → (W.cell? ⟨b2, j, none⟩).isSome = true) (hf : ∀ j, W.frozen? ⟨b2, j, none⟩ = false) (ty : Nat) :
    (Builtin.copy_ #[34, 34] ty #[.slice (some ⟨b2, 0, none⟩) pts.size pts.size, .slice (some ⟨pb, 0, none⟩) pts.size cp]).run Ybaf.prog W = .ok (.int .i64 pts.size) (W.setCells b2 0 (flatK enc 2 pts).toList) := by
  refine run_copy_k W 34 34 ty 41 2 pts.size b2 pts.size ⟨pb, 0, none⟩ cp _ Ybaf.underlying34 (by kernel_rfl) (by simp) (fun j u hu => ?_) (fun j hj => hc j (by simpa using hj)) (fun j _ => hf j) (fun v hv => ?_)
  · have hj : j < (flatK enc 2 pts).size := by
      have := (List.getElem?_eq_some_iff.1 hu).1
      simpa using this
    have h1 := (hs j hj).1
    rw [add_at]
    rw [h1]
    rw [Array.getElem?_toList, Array.getElem?_eq_getElem hj] at hu
    rw [← hu]
    rw [show (id (flatK enc 2 pts)[j]! : Value) = (flatK enc 2 pts)[j]! from rfl, getElem!_pos (flatK enc 2 pts) j hj]
  · obtain ⟨j, hj, rfl⟩ := List.getElem_of_mem hv
    have hj' : j < pts.size * 2 := by simpa using hj
    have := get_flatK enc 2 pts j hj'
    rw [getElem!_pos _ j (by simpa using hj')] at this
    rw [Array.getElem_toList, this]
    have hm : j % 2 = 0 ∨ j % 2 = 1 := by omega
    rcases hm with hm | hm <;> rw [hm] <;> rfl

theorem points_held {W : World} {b2 : Nat} {pts : Array Pt} (h1 : ∀ j v, (flatK enc 2 pts).toList[j]? = some v → W.cell? ⟨b2, j, none⟩ = some v) (h2 : ∀ j, W.frozen? ⟨b2, j, none⟩ = false) : HoldsK enc 2 W b2 0 pts := fun j hj => by
  rw [Nat.zero_add]
  refine ⟨?_, h2 j⟩
  rw [getElem!_pos _ j hj]
  exact h1 j _ (by rw [Array.getElem?_toList, Array.getElem?_eq_getElem hj]; rfl)

end Go.Proofs.YbulkdjggFmt
