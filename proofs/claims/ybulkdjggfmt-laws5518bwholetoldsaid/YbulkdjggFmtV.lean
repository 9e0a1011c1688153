/-
  THE MAP 'offsets' OF Split: its rows, and one key's step (ring.go:348).
-/
import Derived.Test.YbulkdjggFmtT
import Derived.Test.YbulkdjggFmtU
import Derived.Test.YbulkdjggFmtQ
import Derived.Deep.AppendLies
namespace Go.Proofs.YbulkdjggFmt
open Go.RowKit Go.Sort Go.ChangeMaps

abbrev nilS : Value := .slice none 0 0
abbrev K63 : Nat := 9223372036854775808

/-- The block holds a map of ints. -/
def IsMap (W : World) (mb : Nat) (p : List (Nat × Value × Nat) × Nat) : Prop := W.heap[mb]? = some (mobj ik id p.1 p.2) ∧ ∀ e ∈ p.1, e.1 < K63

open Classical in
/-- The map's entries and its counter. -/
noncomputable def mp (W : World) (mb : Nat) : List (Nat × Value × Nat) × Nat := if h : ∃ p, IsMap W mb p then h.choose else ([], 0)
noncomputable def fv (W : World) (mb i : Nat) : Value := (lk i (mp W mb).1).getD nilS
noncomputable def up (W : World) (mb i : Nat) (X : Value) : World := setBlock W mb (mobj ik id (upd i X (mp W mb).2 (mp W mb).1) (updc i (mp W mb).2 (mp W mb).1))

theorem ent_inj : ∀ {l l' : List (Nat × Value × Nat)}, l.map (ent ik id) = l'.map (ent ik id) → l = l'
  | [], [], _ => rfl
  | [], _ :: _, h => by simp at h
  | _ :: _, [], h => by simp at h
  | (a1, a2, a3) :: l, (b1, b2, b3) :: l', h => by
    simp only [List.map_cons, List.cons.injEq] at h
    obtain ⟨h1, h2⟩ := h
    simp only [ent, ik, id, MapEntry.mk.injEq, Value.int.injEq, true_and] at h1
    obtain ⟨k1, k2, k3⟩ := h1
    rw [ent_inj h2, k2, k3, show a1 = b1 by omega]

theorem isMap_eq {W : World} {mb : Nat} {p p' : List (Nat × Value × Nat) × Nat} (h : IsMap W mb p) (h' : IsMap W mb p') : p = p' := by
  have := h.1.symm.trans h'.1
  simp only [mobj, Option.some.injEq, Obj.map.injEq] at this
  obtain ⟨h1, h2⟩ := this
  have h3 : p.1 = p'.1 := ent_inj (by simpa using congrArg Array.toList h1)
  exact Prod.ext h3 h2

theorem mp_of {W : World} {mb : Nat} {p : List (Nat × Value × Nat) × Nat} (h : IsMap W mb p) : mp W mb = p := by
  have hx : ∃ p, IsMap W mb p := ⟨p, h⟩
  unfold mp
  rw [dif_pos hx]
  exact isMap_eq hx.choose_spec h

theorem lookup_run {W : World} {mb i : Nat} (h : ∃ p, IsMap W mb p) (hi : i < K63) : (Instr.lookup 48 (.map (some mb)) (.int .i64 i) false).run Ybaf.prog W = .ok (fv W mb i) W := by
  obtain ⟨p, hp⟩ := h
  have hm := mp_of hp
  have := run_lookup_mine (P := Ybaf.prog) (t := 48) (V := id) Ybaf.underlying48 keys3 hi hp.2 hp.1 nilS (by kernel_rfl) false
  unfold fv
  rw [hm]
  simpa [ik] using this

theorem update_run {W : World} {mb i : Nat} (h : ∃ p, IsMap W mb p) (hi : i < K63) (X : Value) : (Instr.mapUpdate 48 (.map (some mb)) (.int .i64 i) X).run Ybaf.prog W = .ok () (up W mb i X) := by
  obtain ⟨p, hp⟩ := h
  have hm := mp_of hp
  have := run_update_mine (P := Ybaf.prog) (t := 48) (V := id) Ybaf.underlying48 keys3 hi hp.2 hp.1 X
  unfold up
  rw [hm]
  exact this

/-- What stands through a key's step. -/
structure Zz (mb : Nat) (T : Nat → Prop) (W W' : World) : Prop where
  map : ∃ p, IsMap W' mb p
  ot : Ot T W W'

section
variable {mb i : Nat} {T : Nat → Prop} {W W' : World}
theorem IsMap.of {p : List (Nat × Value × Nat) × Nat} (h : IsMap W mb p) (he : W'.heap[mb]? = W.heap[mb]?) : IsMap W' mb p := ⟨he.trans h.1, h.2⟩
theorem Zz.drew (h : Zz mb T W W') : Zz mb T W W'.drew := ⟨h.map, h.ot.drew⟩
theorem Zz.drewN (h : Zz mb T W W') (q : Nat) : Zz mb T W (W'.drewN q) := ⟨h.map, h.ot.drewN q⟩
theorem Zz.alloc (h : Zz mb T W W') (o : Obj) : Zz mb T W (W'.alloc o) := by
  obtain ⟨p, hp⟩ := h.map
  exact ⟨⟨p, hp.of ((below_alloc W' o).block mb (lt_of_block hp.1))⟩, h.ot.alloc o⟩
theorem Zz.grown {row : Option Nat} {W2 : World} (h : Zz mb T W W') (hg : W'.grownBy W2 row) (hr : row ≠ some mb) (hT : ∀ k, row = some k → T k) : Zz mb T W W2 := by
  obtain ⟨p, hp⟩ := h.map
  exact ⟨⟨p, hp.of ((ot_grown hg).block mb (lt_of_block hp.1) hr)⟩, h.ot.step (ot_grown hg) (fun k hk _ => hT k hk)⟩
theorem Zz.up (h : Zz mb T W W') (hi : i < K63) (hT : T mb) (X : Value) : Zz mb T W (up W' mb i X) := by
  obtain ⟨p, hp⟩ := h.map
  refine ⟨⟨(upd i X p.2 p.1, updc i p.2 p.1), ?_, ?_⟩, h.ot.setBlock mb _ (fun _ => hT)⟩
  · unfold YbulkdjggFmt.up
    rw [mp_of hp]
    exact heap_setBlock_eq _ _ _ (lt_of_block hp.1)
  · exact upd_keys i X p.2 K63 hi p.1 hp.2
end


/-- The map's rows: rows i is what it holds at i (nil where it holds none); each row is the call's own, each in a block of its own. -/
structure Rw (mb B : Nat) (rows : Nat → Value) (L : Nat → List Nat) (W : World) : Prop where
  map : ∃ p, IsMap W mb p
  val : ∀ i, fv W mb i = rows i
  own : ∀ i, Own W B (rows i) (L i)
  apart : ∀ i j g, (rows i).ownBlock = some g → (rows j).ownBlock = some g → i = j
  mine : ∀ i, (rows i).ownBlock ≠ some mb

section
variable {mb B i : Nat} {rows : Nat → Value} {L : Nat → List Nat} {W W' : World}

theorem fv_of (he : W'.heap[mb]? = W.heap[mb]?) (hm : ∃ p, IsMap W mb p) : fv W' mb i = fv W mb i := by
  obtain ⟨p, hp⟩ := hm
  unfold fv
  rw [mp_of hp, mp_of (hp.of he)]

theorem Rw.ot {S : Nat → Prop} (h : Rw mb B rows L W) (ho : Ot S W W') (h0 : ¬ S mb) (h1 : ∀ i g, (rows i).ownBlock = some g → ¬ S g) : Rw mb B rows L W' := by
  obtain ⟨p, hp⟩ := h.map
  have he : W'.heap[mb]? = W.heap[mb]? := ho.block mb (lt_of_block hp.1) h0
  exact ⟨⟨p, hp.of he⟩, fun i => (fv_of he h.map).trans (h.val i), fun i => (h.own i).ot ho (fun g hg => h1 i g hg), h.apart, h.mine⟩

theorem Rw.below (h : Rw mb B rows L W) (ho : Below W.heap.size W W') : Rw mb B rows L W' := h.ot (Ot.of_below (fun _ => False) ho) (fun h => h) (fun _ _ _ h => h)

theorem Rw.put {g n cap : Nat} {l' : List Nat} (h : Rw mb B rows L W) (hi : i < K63) (ho : Ot (fun k => (rows i).ownBlock = some k) W W') (hO : Own W' B (.slice (some ⟨g, 0, none⟩) n cap) l')
    (hat : (rows i).ownBlock = some g ∨ W.heap.size ≤ g) :
    Rw mb B (fun j => if j = i then .slice (some ⟨g, 0, none⟩) n cap else rows j) (fun j => if j = i then l' else L j) (up W' mb i (.slice (some ⟨g, 0, none⟩) n cap)) := by
  obtain ⟨p, hp⟩ := h.map
  have hml := lt_of_block hp.1
  have he : W'.heap[mb]? = W.heap[mb]? := ho.block mb hml (h.mine i)
  have hp' := hp.of he
  have hgm : g ≠ mb := fun e => by
    rcases hat with k | k
    · exact h.mine i (by rw [k, e])
    · omega
  have hu : Ot (fun k => k = mb) W' (up W' mb i (.slice (some ⟨g, 0, none⟩) n cap)) := (Ot.refl _ W').setBlock mb _ (fun _ => rfl)
  have hp2 : IsMap (up W' mb i (.slice (some ⟨g, 0, none⟩) n cap)) mb (upd i (.slice (some ⟨g, 0, none⟩) n cap) p.2 p.1, updc i p.2 p.1) := by
    refine ⟨?_, upd_keys i _ p.2 K63 hi p.1 hp.2⟩
    unfold up
    rw [mp_of hp']
    exact heap_setBlock_eq _ _ _ (lt_of_block hp'.1)
  refine ⟨⟨_, hp2⟩, fun j => ?_, fun j => ?_, fun a b k ha hb => ?_, fun j => ?_⟩
  · unfold fv
    rw [mp_of hp2]
    show (lk j (upd i _ p.2 p.1)).getD nilS = _
    rw [lk_upd]
    by_cases hj : j = i
    · simp [hj]
    · have := h.val j
      unfold fv at this
      rw [mp_of hp] at this
      simp only [if_neg hj]
      exact this
  · (try dsimp only)
    by_cases hj : j = i
    · rw [if_pos hj, if_pos hj]
      exact hO.ot hu (fun k hk => by have : k = g := by simpa [Value.ownBlock] using hk.symm
                                     omega)
    · rw [if_neg hj, if_neg hj]
      exact ((h.own j).ot ho (fun k hk hk2 => hj (h.apart j i k hk hk2))).ot hu (fun k hk hk2 => h.mine j (by rw [hk, hk2]))
  · (try dsimp only at ha hb)
    have hno : ∀ j, j ≠ i → (rows j).ownBlock = some g → False := fun j hj hjg => by
      rcases hat with k | k
      · exact hj (h.apart j i g hjg k)
      · have := (h.own j).lt g hjg
        omega
    by_cases h1 : a = i
    · rw [if_pos h1] at ha
      have hkg : k = g := by simpa [Value.ownBlock] using ha.symm
      by_cases h2 : b = i
      · omega
      · rw [if_neg h2, hkg] at hb
        exact (hno b h2 hb).elim
    · rw [if_neg h1] at ha
      by_cases h2 : b = i
      · rw [if_pos h2] at hb
        have hkg : k = g := by simpa [Value.ownBlock] using hb.symm
        rw [hkg] at ha
        exact (hno a h1 ha).elim
      · rw [if_neg h2] at hb
        exact h.apart a b k ha hb
  · (try dsimp only)
    by_cases hj : j = i
    · rw [if_pos hj]
      intro hk
      have : mb = g := by simpa [Value.ownBlock] using hk.symm
      omega
    · rw [if_neg hj]
      exact h.mine j
end

theorem Rw.turn {mb B i : Nat} {rows : Nat → Value} {L : Nat → List Nat} {W W' : World} {l' : List Nat} (h : Rw mb B rows L W) (ho : Ot (fun k => (rows i).ownBlock = some k) W W') (hO : Own W' B (rows i) l') :
    Rw mb B rows (fun j => if j = i then l' else L j) W' := by
  obtain ⟨p, hp⟩ := h.map
  have he : W'.heap[mb]? = W.heap[mb]? := ho.block mb (lt_of_block hp.1) (h.mine i)
  refine ⟨⟨p, hp.of he⟩, fun j => (fv_of he h.map).trans (h.val j), fun j => ?_, h.apart, h.mine⟩
  by_cases hj : j = i
  · rw [if_pos hj, hj]; exact hO
  · rw [if_neg hj]; exact (h.own j).ot ho (fun k hk hk2 => hj (h.apart j i k hk hk2))

/-- The offsets of the keys that fall to the point i, in the keys' order. -/
def offL (pts : Array Pt) (hs : List Nat) (i : Nat) : List Nat := (hs.filter fun h => decide (fnd pts h = i)).map fun h => sub64 (sub64 h (arc pts i)) 1

theorem offL_snoc (pts : Array Pt) (hs : List Nat) (h : Nat) : (fun j => if j = fnd pts h then offL pts hs (fnd pts h) ++ [sub64 (sub64 h (arc pts (fnd pts h))) 1] else offL pts hs j) = offL pts (hs ++ [h]) := by
  funext j
  unfold offL
  by_cases hj : j = fnd pts h
  · subst hj
    simp
  · have : ¬ fnd pts h = j := fun e => hj e.symm
    simp [hj, this]

theorem offL_len (pts : Array Pt) (hs : List Nat) (i : Nat) : (offL pts hs i).length ≤ hs.length := by
  unfold offL
  simp only [List.length_map]
  exact List.length_filter_le _ _

theorem Own.base {w : World} {B B' : Nat} {v : Value} {xs : List Nat} (h : Own w B v xs) (hB : B' ≤ B) : Own w B' v xs := by
  refine ⟨h.1, ?_⟩
  rcases h.2 with h0 | ⟨g, cap, cur, rfl, hb, r⟩
  · exact .inl h0
  · exact .inr ⟨g, cap, cur, rfl, Nat.le_trans hB hb, r⟩

/-- What stands at each world of Split's second loop: the box of 'placed' (block bx) and its row, the map's rows. -/
structure Sx (w : World) (bx : Nat) (pv : Value) (os : List Nat) (rows : Nat → Value) (L : Nat → List Nat) (W : World) : Prop where
  bc : W.cell? ⟨bx, 0, none⟩ = some pv
  bf : W.frozen? ⟨bx, 0, none⟩ = false
  own : Own W (bx + 1) pv os
  rw : Rw w.heap.size w.heap.size rows L W
  b : Below w.heap.size w W
  sz : bx + 1 ≤ W.heap.size
  low : ∀ j g, (rows j).ownBlock = some g → g < bx
  lo : w.heap.size < bx

section
variable {w W W' : World} {bx i : Nat} {pv : Value} {os : List Nat} {rows : Nat → Value} {L : Nat → List Nat}
theorem Sx.below (h : Sx w bx pv os rows L W) (hb : Below W.heap.size W W') : Sx w bx pv os rows L W' :=
  ⟨(hb.cell (World.block_lt_of_cell? _ _ h.bc)).trans h.bc, ((Ot.of_below (fun _ => False) hb).frozen (p := ⟨bx, 0, none⟩) h.sz (fun h => h)).trans h.bf,
    h.own.ot (Ot.of_below (fun _ => False) hb) (fun _ _ h => h), h.rw.below hb, below_next h.b hb, Nat.le_trans h.sz hb.size, h.low, h.lo⟩

theorem Sx.turn {l' : List Nat} (h : Sx w bx pv os rows L W) (ho : Ot (fun k => (rows i).ownBlock = some k) W W') (hO : Own W' w.heap.size (rows i) l') : Sx w bx pv os rows (fun j => if j = i then l' else L j) W' := by
  have hn : ¬ (rows i).ownBlock = some bx := fun e => by have := h.low i _ e; omega
  refine ⟨ho.cellv h.bc hn, (ho.frozen (p := ⟨bx, 0, none⟩) h.sz hn).trans h.bf, h.own.ot ho (fun g hg e => ?_), h.rw.turn ho hO, ?_, Nat.le_trans h.sz ho.size, h.low, h.lo⟩
  · have := h.low i _ e
    have := (h.own.lt g hg).1
    omega
  · exact h.b.trans (ho.below h.b.size (fun k hk => ((h.rw.own i).lt k hk).1))

/-- 'placed' grown by one, and the box written. -/
theorem Sx.push {os' : List Nat} {pv' : Value} (h : Sx w bx pv os rows L W) (ho : Ot (fun k => pv.ownBlock = some k) W W') (hO : Own W' (bx + 1) pv' os') :
    Sx w bx pv' os' rows L (W'.setCell ⟨bx, 0, none⟩ pv') := by
  have hn : ¬ pv.ownBlock = some bx := fun e => by have := (h.own.lt _ e).1; omega
  have hb0 := ho.cellv h.bc hn
  have hbf := (ho.frozen (p := ⟨bx, 0, none⟩) h.sz hn).trans h.bf
  have hs : Ot (fun k => k = bx) W' (W'.setCell ⟨bx, 0, none⟩ pv') := (Ot.refl (fun k => k = bx) W').setCell (p := ⟨bx, 0, none⟩) (fun _ => rfl) _
  have hr := h.rw.ot ho (fun e => by have h1 := (h.own.lt _ e).1; have := h.lo; omega) (fun j g hg e => by have h1 := (h.own.lt _ e).1; have h2 := h.low j g hg; omega)
  refine ⟨World.cell?_setCell_same _ _ _ hb0, by rw [World.frozen?_setCell]; exact hbf, hO.ot hs (fun g hg e => by have := (hO.lt g hg).1; omega), hr.ot hs (fun e => by have := h.lo; omega) (fun j g hg e => by have h2 := h.low j g hg; omega), ?_, ?_, h.low, h.lo⟩
  · exact (h.b.trans (ho.below h.b.size (fun k hk => by have := (h.own.lt k hk).1; have := h.lo; omega))).trans (hs.below (Nat.le_trans h.b.size ho.size) (fun k hk => by have := h.lo; omega))
  · exact Nat.le_trans (Nat.le_trans h.sz ho.size) hs.size
end

end Go.Proofs.YbulkdjggFmt
