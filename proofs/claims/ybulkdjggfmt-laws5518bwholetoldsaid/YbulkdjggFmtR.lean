/-
  Rows of uint64 of the call's own; zzs5518binsert (12).
-/
import Derived.Test.YbulkdjggFmtM
import Derived.Deep.LoopGhost
namespace Go.Proofs.YbulkdjggFmt
open Go.RowKit

theorem Ybaf.info28 : (Ybaf.prog.info? 28).map (fun i => (i.zero, i.size, i.bytes)) = some (some (.int .u64 0), 1, 8) := by kernel_rfl

abbrev u64s (xs : List Nat) : List Value := xs.map fun (x : Nat) => Value.int .u64 (x : Int)

/-- What a []uint64 of the call's own holds. -/
def Own (w : World) (B : Nat) (v : Value) (xs : List Nat) : Prop := w.ownsRow B 28 1 v xs.length (u64s xs)

theorem u64s_oneCell (xs : List Nat) : ∀ u ∈ u64s xs, u.oneCell' = true := by
  intro u hu
  obtain ⟨x, _, rfl⟩ := List.mem_map.1 hu
  rfl

section
variable {w w' : World} {B : Nat} {v : Value} {xs : List Nat}

theorem Own.form (h : Own w B v xs) :
    (v = .slice none 0 0 ∧ xs = []) ∨ ∃ g cap, v = .slice (some ⟨g, 0, none⟩) xs.length cap ∧ B ≤ g ∧ g < w.heap.size ∧
      (∀ j, j < xs.length → w.cell? ⟨g, j, none⟩ = some (.int .u64 (xs.getD j 0))) ∧ ∀ j, w.frozen? ⟨g, j, none⟩ = false := by
  have h' : w.ownsRow B 28 1 v xs.length (u64s xs) := h
  rcases h'.2 with ⟨rfl, h0⟩ | ⟨g, cap, cur, rfl, hb, hg, hnc, hcm, hcs, ht⟩
  · exact .inl ⟨rfl, List.length_eq_zero_iff.1 h0⟩
  · refine .inr ⟨g, cap, rfl, hb, (Array.getElem?_eq_some_iff.1 hg).1, fun j hj => ?_, fun j => h'.frozenAt j⟩
    rw [h'.cellAt j (by omega)]
    simp [List.getD_eq_getElem?_getD, List.getElem?_eq_getElem hj]

theorem Own.at {g n cap : Nat} (h : Own w B (.slice (some ⟨g, 0, none⟩) n cap) xs) : B ≤ g ∧ g < w.heap.size ∧ n = xs.length ∧
    (∀ j, j < xs.length → w.cell? ⟨g, j, none⟩ = some (.int .u64 (xs.getD j 0))) ∧ ∀ j, w.frozen? ⟨g, j, none⟩ = false := by
  rcases h.form with ⟨h0, _⟩ | ⟨g', cap', he, h1, h2, h3, h4⟩
  · cases h0
  · simp only [Value.slice.injEq, Option.some.injEq, Addr.mk.injEq] at he
    obtain ⟨⟨rfl, _⟩, rfl, rfl⟩ := he
    exact ⟨h1, h2, rfl, h3, h4⟩

theorem Own.shape (h : Own w B v xs) : ∃ ao cap, v = .slice ao xs.length cap ∧ (0 < xs.length → ∃ g, ao = some ⟨g, 0, none⟩ ∧ B ≤ g ∧ g < w.heap.size ∧ (∀ j, j < xs.length → w.cell? ⟨g, j, none⟩ = some (.int .u64 (xs.getD j 0))) ∧ ∀ j, w.frozen? ⟨g, j, none⟩ = false) := by
  rcases h.form with ⟨rfl, rfl⟩ | ⟨g, cap, rfl, h1, h2, h3, h4⟩
  · exact ⟨none, 0, rfl, fun h => by simp at h⟩
  · exact ⟨_, cap, rfl, fun _ => ⟨g, rfl, h1, h2, h3, h4⟩⟩

theorem Own.nil (w : World) (B : Nat) : Own w B (.slice none 0 0) [] := World.ownsRow_nil w B 28 1

theorem ownsRow_ot {e : TypeId} {size n : Nat} {ys : List Value} {S : Nat → Prop} (h : w.ownsRow B e size v n ys) (ho : Ot S w w') (hs : ∀ g, v.ownBlock = some g → ¬ S g) : w'.ownsRow B e size v n ys := by
  refine ⟨h.1, ?_⟩
  rcases h.2 with h0 | ⟨g, cap, cur, rfl, hb, hg, r⟩
  · exact .inl h0
  · exact .inr ⟨g, cap, cur, rfl, hb, (ho.block g (Array.getElem?_eq_some_iff.1 hg).1 (hs g rfl)).trans hg, r⟩

theorem Own.ot {S : Nat → Prop} (h : Own w B v xs) (ho : Ot S w w') (hs : ∀ g, v.ownBlock = some g → ¬ S g) : Own w' B v xs := ownsRow_ot h ho hs

theorem Own.lt (h : Own w B v xs) : ∀ g, v.ownBlock = some g → B ≤ g ∧ g < w.heap.size := World.ownsRow.lt h

theorem ot_grown {row : Option Nat} (h : w.grownBy w' row) : Ot (fun k => row = some k) w w' := ⟨h.os, h.tape, h.output, h.size, fun k hk hs => h.block k hk (fun e => hs e.symm)⟩

theorem Own.set {g cap n : Nat} (h : Own w B (.slice (some ⟨g, 0, none⟩) n cap) xs) (i x : Nat) : Own (w.setCell ⟨g, i, none⟩ (.int .u64 x)) B (.slice (some ⟨g, 0, none⟩) n cap) (xs.set i x) := by
  refine ⟨by simp [u64s], ?_⟩
  rcases h.2 with ⟨h0, _⟩ | ⟨g', cap', cur, he, hb, hg, hnc, hcm, hcs, ht⟩
  · cases h0
  · simp only [Value.slice.injEq, Option.some.injEq, Addr.mk.injEq] at he
    obtain ⟨⟨rfl, _⟩, rfl, rfl⟩ := he
    refine .inr ⟨g, cap, cur.setIfInBounds i (.int .u64 x), by simp, hb, ?_, by simpa using hnc, hcm, by simpa using hcs, ?_⟩
    · have hgl := (Array.getElem?_eq_some_iff.1 hg).1
      have hge := (Array.getElem?_eq_some_iff.1 hg).2
      simp only [World.setCell]
      rw [Array.getElem?_modify, if_pos rfl, hg]
      rfl
    · rw [Array.toList_setIfInBounds, List.take_set, List.length_set, ht]
      simp [u64s, List.map_set]
end

/-- Ascending. -/
abbrev Asc (xs : List Nat) : Prop := xs.Pairwise (· ≤ ·)

theorem ins_step (xs c : List Nat) (i : Nat) (h0 : 0 < i) (hi : i ≤ xs.length) (hl : c.length = xs.length + 1) (h1 : c.take i = xs.take i) (h2 : c.drop (i + 1) = xs.drop i) :
    c.getD (i - 1) 0 = xs.getD (i - 1) 0 ∧ (c.set i (xs.getD (i - 1) 0)).take (i - 1) = xs.take (i - 1) ∧ (c.set i (xs.getD (i - 1) 0)).drop (i - 1 + 1) = xs.drop (i - 1) := by
  obtain ⟨k, rfl⟩ : ∃ k, i = k + 1 := ⟨i - 1, by omega⟩
  have e1 : c.getD k 0 = xs.getD k 0 := by
    have := congrArg (fun l => l.getD k 0) h1
    simpa [List.getD_eq_getElem?_getD, List.getElem?_take] using this
  refine ⟨e1, ?_, ?_⟩
  · show (c.set (k + 1) _).take k = xs.take k
    rw [List.take_set, List.set_eq_of_length_le (by simp; omega)]
    have := congrArg (fun l => l.take k) h1
    simpa [List.take_take, Nat.min_eq_left (Nat.le_succ k)] using this
  · show (c.set (k + 1) (xs.getD k 0)).drop (k + 1) = xs.drop k
    have hk : k < xs.length := by omega
    have hk2 : k + 1 < c.length := by omega
    rw [List.drop_eq_getElem_cons (show k + 1 < (c.set (k + 1) (xs.getD k 0)).length by simpa using hk2), List.drop_eq_getElem_cons hk, List.getElem_set_self]
    congr 1
    · simp [List.getD_eq_getElem?_getD, hk]
    · rw [List.drop_set_of_lt (by omega), h2]

theorem ins_end (xs c : List Nat) (i x : Nat) (hi : i ≤ xs.length) (hl : c.length = xs.length + 1) (h1 : c.take i = xs.take i) (h2 : c.drop (i + 1) = xs.drop i) : c.set i x = xs.take i ++ x :: xs.drop i := by
  rw [List.set_eq_take_append_cons_drop, if_pos (by omega), h1, h2]

theorem ins_sorted (xs : List Nat) (i x : Nat) (hs : Asc xs) (h1 : ∀ y ∈ xs.drop i, x < y) (h2 : i = 0 ∨ xs.getD (i - 1) 0 ≤ x) (hi : i ≤ xs.length) : Asc (xs.take i ++ x :: xs.drop i) ∧ (xs.take i ++ x :: xs.drop i).Perm (x :: xs) := by
  have hs' := hs
  rw [← List.take_append_drop i xs] at hs'
  unfold Asc at hs'
  rw [List.pairwise_append] at hs'
  obtain ⟨a1, a2, a3⟩ := hs'
  constructor
  · unfold Asc
    rw [List.pairwise_append]
    refine ⟨a1, List.pairwise_cons.2 ⟨fun y hy => Nat.le_of_lt (h1 y hy), a2⟩, fun y hy z hz => ?_⟩
    have hyx : y ≤ x := by
      rcases h2 with h2 | h2
      · subst h2; simp at hy
      · refine Nat.le_trans ?_ h2
        obtain ⟨k, hk, rfl⟩ := List.getElem_of_mem hy
        simp at hk
        have hi' : i - 1 < xs.length := by omega
        rw [List.getElem_take, List.getD_eq_getElem?_getD, List.getElem?_eq_getElem hi', Option.getD_some]
        rcases Nat.lt_or_ge k (i - 1) with hlt | hge
        · exact List.pairwise_iff_getElem.1 hs k (i - 1) _ _ hlt
        · have : k = i - 1 := by omega
          subst this; exact Nat.le_refl _
    rcases List.mem_cons.1 hz with rfl | hz
    · exact hyx
    · exact Nat.le_trans hyx (Nat.le_of_lt (h1 z hz))
  · refine (List.perm_middle).trans ?_
    rw [List.take_append_drop]

set_option maxHeartbeats 1000000 in
set_option maxRecDepth 100000 in
theorem ins_at (B : Nat) (v : Value) (xs : List Nat) (x : Nat) (w : World) (hown : Own w B v xs) (hB : B ≤ w.heap.size) (hl : xs.length ≤ 1000000) (hs : Asc xs) :
    Calls Ybaf.prog 12 #[v, .int .u64 x] w fun e w' => ∃ v' ys, e = .returned v' ∧ Own w' B v' ys ∧ ys.Perm (x :: xs) ∧ Asc ys ∧ Ot (fun k => B ≤ k) w w' := by
  obtain ⟨i0, hi, hz0, hz1, hz2⟩ := info_parts Ybaf.info28
  have hown' : w.ownsRow B 28 1 v xs.length (u64s xs) := hown
  have HS := hide hs
  clear hs
  go_enter Ybaf.func12, Ybaf.ntmps12
  go_upto_region 2 with (at_builtin; refine wpList_append_own _ rfl _ _ 25 rfl B 28 i0 (.int .u64 0) 1 8 Ybaf.underlying25 hi hz0 hz1 hz2 rfl (by decide) _ _ _ rfl (hown'.alloc _) ⟨w.heap.size, 0, none⟩ 1 1 [.int .u64 x] rfl rfl (cell_one_new _ _ _) (u64s_oneCell [x]) (by unfold maxLen; omega) (by omega) (by simp; omega) ?_; intro v' w2 hown2 hg2 hnil2)
  have ho : Ot (fun k => B ≤ k) w w2 := ((Ot.refl _ w).alloc _).step (ot_grown hg2) (fun k hk _ => (hown.lt k hk).1)
  have hO : Own w2 B v' (xs ++ [x]) := by
    unfold Own
    simpa [u64s] using hown2
  clear hg2 hnil2 hown2 hown'
  rcases hO.form with ⟨_, h⟩ | ⟨g, cap, rfl, hbg, hgl, _, _⟩
  · simp at h
  rw [show (xs ++ [x]).length = xs.length + 1 by simp] at hO ⊢
  have hO' : Own w2 B (.slice (some ⟨g, 0, none⟩) (xs.length + 1) cap) (xs ++ [x]) := hO
  clear hO hown
  obtain ⟨n, hn⟩ : ∃ n, n = xs.length := ⟨_, rfl⟩
  rw [← hn] at hO' hl ⊢
  have HN := hide hn
  clear hn
  obtain ⟨m, hm⟩ : ∃ m, m = n + 1 := ⟨_, rfl⟩
  rw [← hm] at hO' ⊢
  have hn1 : ((m : Int) - 1) = (n : Int) := by omega
  go_wp2_with fail
  go_loopg [5] n (fun kx s5 wr => ∃ (i : Nat) (c : List Nat), s5 = .int .i64 i ∧ i ≤ n ∧ i ≤ kx ∧ Own wr B (.slice (some ⟨g, 0, none⟩) m cap) c ∧ c.length = m ∧ c.take i = xs.take i ∧ c.drop (i + 1) = xs.drop i ∧ (∀ y ∈ xs.drop i, x < y) ∧ Ot (fun k => B ≤ k) w wr)
  case atStart =>
    have hn := HN.out
    subst hn
    exact ⟨xs.length, xs ++ [x], by rfl, Nat.le_refl _, Nat.le_refl _, hO', by simp; omega, by simp, by simp, by simp, ho⟩
  case round =>
    clear hO' ho hgl
    obtain ⟨i, c, rfl, hin, hik, hO, hcl, ht, hd, hx, ho⟩ := hrel
    have hn := HN.out
    have hend := ins_end xs c i x (by omega) (by omega) ht hd
    obtain ⟨_, hgl, _, hce, hfr⟩ := hO.at
    have ci := hce i (by omega)
    have hf := hfr i
    have hset := hO.set i x
    have hos : Ot (fun k => B ≤ k) w (wr.setCell ⟨g, i, none⟩ (.int .u64 x)) := ho.setCell (fun _ => hbg) _
    have hfin : (i = 0 ∨ xs.getD (i - 1) 0 ≤ x) → ∃ v' ys, Ending.returned (.slice (some ⟨g, 0, none⟩) m cap) = .returned v' ∧ Own (wr.setCell ⟨g, i, none⟩ (.int .u64 x)) B v' ys ∧ ys.Perm (x :: xs) ∧ Asc ys ∧ Ot (fun k => B ≤ k) w (wr.setCell ⟨g, i, none⟩ (.int .u64 x)) := fun h2 => by
      have := ins_sorted xs i x HS.out hx h2 (by omega)
      rw [hend] at hset
      exact ⟨_, _, rfl, hset, this.2, this.1, hos⟩
    have HF := hide hfin
    clear hfin hset hos hend
    have hii : (i : Int) ≤ n := by omega
    by_cases h0 : 0 < i
    · have h0i : (0 : Int) < i := by omega
      have hs := ins_step xs c i h0 (by omega) (by omega) ht hd
      have cj := hce (i - 1) (by omega)
      rw [hs.1] at cj
      have hi1 : ((i : Int) - 1) = ((i - 1 : Nat) : Int) := by omega
      have hi2 : ((i - 1 : Nat) : Int) < (m : Int) := by omega
      have hi3 : (i : Int) < (m : Int) := by omega
      have hset := hO.set i (xs.getD (i - 1) 0)
      have hos : Ot (fun k => B ≤ k) w (wr.setCell ⟨g, i, none⟩ (.int .u64 (xs.getD (i - 1) 0 : Nat))) := ho.setCell (fun _ => hbg) _
      have hx' : xs.getD (i - 1) 0 > x → ∀ y ∈ xs.drop (i - 1), x < y := fun hy y hm => by
        rw [List.drop_eq_getElem_cons (show i - 1 < xs.length by omega), show i - 1 + 1 = i by omega] at hm
        rcases List.mem_cons.1 hm with rfl | hm
        · simpa [List.getD_eq_getElem?_getD, show i - 1 < xs.length by omega] using hy
        · exact hx y hm
      have HX := hide (And.intro hs.2 (And.intro hset (And.intro hos hx')))
      clear hs hset hos hx' hx ht hd hce hfr hO ho hn
      generalize xs.getD (i - 1) 0 = y at *
      by_cases hy : y > x
      · have hyi : (x : Int) < y := by omega
        go_wp2_with fail
        go_roundg (i - 1)
        case measure => omega
        case rel =>
          obtain ⟨⟨k1, k2⟩, k3, k4, k5⟩ := HX.out
          exact ⟨i - 1, _, rfl, by omega, Nat.le_refl _, k3, by simpa using hcl, k1, k2, k5 hy, k4⟩
      · have hyi : ¬ (x : Int) < y := by omega
        have hf2 := HF.out (.inr (by omega))
        have HF2 := hide hf2
        clear hf2
        go_wp2_with fail
        go_ret
        subst hm
        obtain ⟨_, ys, k1, k2⟩ := HF2.out
        cases k1
        exact ⟨_, rfl, ys, k2⟩
    · have h0i : ¬ (0 : Int) < i := by omega
      have hf2 := HF.out (.inl (by omega))
      have HF2 := hide hf2
      clear hf2 hx ht hd hce hfr hO ho hn
      have hi3 : (i : Int) < (m : Int) := by omega
      go_wp2_with fail
      go_ret
      subst hm
      obtain ⟨_, ys, k1, k2⟩ := HF2.out
      cases k1
      exact ⟨_, rfl, ys, k2⟩

end Go.Proofs.YbulkdjggFmt
