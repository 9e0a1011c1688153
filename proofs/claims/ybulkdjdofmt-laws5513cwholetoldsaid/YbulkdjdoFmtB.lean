import Derived.Test.YbulkdjdoFmtA
namespace Go.Proofs.YbulkdjdoFmt
open Go.RowKit

set_option maxHeartbeats 800000 in
/-- 'appendRange' where the new range stands apart: it is appended. -/
theorem append_add (B : Nat) (v : Value) (ys : List Int) (f l : Int) (w : World) (hown : Owns w B v ys) (hB : B ≤ w.heap.size) (hl : ys.length ≤ 4096)
    (hf0 : 0 ≤ f) (hf1 : f ≤ 1100000)
    (hg : 0 < ys.length → ¬ f - 1 ≤ ys.getD (ys.length - 1) 0) :
    Calls Ybaf.prog 12 #[v, .int .i64 f, .int .i64 l] w fun e w' =>
      ∃ v', e = .returned v' ∧ Owns w' B v' (ys ++ [f, l]) ∧ w.grownBy w' v.ownBlock := by
  obtain ⟨i0, hi, hz0, hz1, hz2⟩ := info_parts Ybaf.info2
  have hown' : w.ownsRow B 2 1 v ys.length (ys.map (Value.int .i64)) := hown
  by_cases h0 : ys.length = 0
  · have : ys = [] := List.length_eq_zero_iff.1 h0
    subst this
    clear hg h0 hl
    rcases hown.form with ⟨rfl, _⟩ | ⟨g, cap, rfl, _⟩
    · clear hown
      go_enter Ybaf.func12, Ybaf.ntmps12
      go_wp2_with (at_builtin; refine wpList_append_own _ rfl _ _ 23 rfl B 2 i0 (.int .i64 0) 1 8 Ybaf.underlying23 hi hz0 hz1 hz2 rfl (by decide) _ _ _ rfl (hown'.alloc _) ⟨w.heap.size, 0, none⟩ 2 2 [.int .i64 f, .int .i64 l] rfl rfl (cell_two_new _ _ _ _) (ints_oneCell .i64 [f, l]) (by simp [maxLen]) (by simp) (by simp; omega) ?_; intro v' w2 hown2 hg2 hnil2)
      go_ret
      exact ⟨_, rfl, hown2, (World.grownBy_alloc w _ _).trans hg2⟩
    · clear hown
      go_enter Ybaf.func12, Ybaf.ntmps12
      go_wp2_with (at_builtin; refine wpList_append_own _ rfl _ _ 23 rfl B 2 i0 (.int .i64 0) 1 8 Ybaf.underlying23 hi hz0 hz1 hz2 rfl (by decide) _ _ _ rfl (hown'.alloc _) ⟨w.heap.size, 0, none⟩ 2 2 [.int .i64 f, .int .i64 l] rfl rfl (cell_two_new _ _ _ _) (ints_oneCell .i64 [f, l]) (by simp [maxLen]) (by simp) (by simp; omega) ?_; intro v' w2 hown2 hg2 hnil2)
      go_ret
      exact ⟨_, rfl, hown2, (World.grownBy_alloc w _ _).trans hg2⟩
  · rcases hown.form with ⟨_, rfl⟩ | ⟨g, cap, rfl, _, _, hc, _⟩
    · simp at h0
    · clear hown
      have hcl := hc (ys.length - 1) (by omega)
      have hg' := hg (by omega)
      generalize hx : ys.getD (ys.length - 1) 0 = x at hcl hg'
      clear hx hg hc
      obtain ⟨n, hn⟩ : ∃ n, ys.length = n + 1 := ⟨ys.length - 1, by omega⟩
      rw [hn] at hcl hown' hl
      clear h0
      have e1 : (ys ++ [f, l]).length = n + 1 + 2 := by simp [hn]
      rw [hn]
      simp only [Nat.add_sub_cancel] at hcl
      go_enter Ybaf.func12, Ybaf.ntmps12
      go_wp2_with (at_builtin; refine wpList_append_own _ rfl _ _ 23 rfl B 2 i0 (.int .i64 0) 1 8 Ybaf.underlying23 hi hz0 hz1 hz2 rfl (by decide) _ _ _ rfl (hown'.alloc _) ⟨w.heap.size, 0, none⟩ 2 2 [.int .i64 f, .int .i64 l] rfl rfl (cell_two_new _ _ _ _) (ints_oneCell .i64 [f, l]) (by unfold maxLen; omega) (by omega) (by simp; omega) ?_; intro v' w2 hown2 hg2 hnil2)
      go_ret
      exact ⟨_, rfl, by unfold Owns; rw [e1]; simpa using hown2, (World.grownBy_alloc w _ _).trans hg2⟩

set_option maxHeartbeats 800000 in
/-- 'appendRange' where the new range touches the last one and reaches further: the last one is widened in place. -/
theorem append_widen (B : Nat) (v : Value) (ys : List Int) (f l : Int) (w : World) (hown : Owns w B v ys) (hl : ys.length ≤ 4096)
    (hf0 : 0 ≤ f) (hf1 : f ≤ 1100000) (h0 : 0 < ys.length)
    (hg : f - 1 ≤ ys.getD (ys.length - 1) 0) (hlt : ys.getD (ys.length - 1) 0 < l) :
    Calls Ybaf.prog 12 #[v, .int .i64 f, .int .i64 l] w fun e w' =>
      ∃ v', e = .returned v' ∧ Owns w' B v' (ys.set (ys.length - 1) l) ∧ w.grownBy w' v.ownBlock := by
  have hown' : w.ownsRow B 2 1 v ys.length (ys.map (Value.int .i64)) := hown
  rcases hown.form with ⟨_, rfl⟩ | ⟨g, cap, rfl, _, _, hc, hfz⟩
  · simp at h0
  · clear hown
    have hcl := hc (ys.length - 1) (by omega)
    have hst := hown'.stored (ys.length - 1) (.int .i64 l)
    generalize hx : ys.getD (ys.length - 1) 0 = x at hcl hg hlt
    clear hx hc
    obtain ⟨n, hn⟩ : ∃ n, ys.length = n + 1 := ⟨ys.length - 1, by omega⟩
    have e1 : (ys.set (ys.length - 1) l).length = ys.length := by simp
    have hst2 : Owns (w.setCell ⟨g, ys.length - 1, none⟩ (.int .i64 l)) B (.slice (some ⟨g, 0, none⟩) ys.length cap) (ys.set (ys.length - 1) l) := by
      unfold Owns; rw [e1, List.map_set]; exact hst.1
    have hst3 := hst.2
    clear hst e1 hown'
    rw [hn] at hcl hst2 hst3 hl ⊢
    simp only [Nat.add_sub_cancel] at hcl hst2 hst3 ⊢
    have hfz1 := hfz n
    clear hfz hn h0
    have H2 : Hid (Owns (w.setCell ⟨g, n, none⟩ (.int .i64 l)) B (.slice (some ⟨g, 0, none⟩) (n + 1) cap) (ys.set n l)) := hst2
    have H3 : Hid (w.grownBy (w.setCell ⟨g, n, none⟩ (.int .i64 l)) (some g)) := hst3
    clear hst2 hst3
    go_enter Ybaf.func12, Ybaf.ntmps12
    go_wp2
    go_ret
    exact ⟨_, rfl, H2.out, H3.out⟩

set_option maxHeartbeats 800000 in
/-- 'appendRange' where the new range lies within the last one. -/
theorem append_same (B : Nat) (v : Value) (ys : List Int) (f l : Int) (w : World) (hown : Owns w B v ys) (hl : ys.length ≤ 4096)
    (hf0 : 0 ≤ f) (hf1 : f ≤ 1100000) (h0 : 0 < ys.length)
    (hg : f - 1 ≤ ys.getD (ys.length - 1) 0) (hlt : ¬ ys.getD (ys.length - 1) 0 < l) :
    Calls Ybaf.prog 12 #[v, .int .i64 f, .int .i64 l] w fun e w' =>
      ∃ v', e = .returned v' ∧ Owns w' B v' ys ∧ w.grownBy w' v.ownBlock := by
  rcases hown.form with ⟨_, rfl⟩ | ⟨g, cap, rfl, _, _, hc, _⟩
  · simp at h0
  · have hcl := hc (ys.length - 1) (by omega)
    generalize hx : ys.getD (ys.length - 1) 0 = x at hcl hg hlt
    clear hx hc
    obtain ⟨n, hn⟩ : ∃ n, ys.length = n + 1 := ⟨ys.length - 1, by omega⟩
    have H : Hid (Owns w B (.slice (some ⟨g, 0, none⟩) (n + 1) cap) ys) := by rw [← hn]; exact hown
    clear hown
    rw [hn] at hcl hl ⊢
    simp only [Nat.add_sub_cancel] at hcl
    clear hn h0
    go_enter Ybaf.func12, Ybaf.ntmps12
    go_wp2
    go_ret
    exact ⟨_, rfl, H.out, World.grownBy.refl _ _⟩

/-- 'appendRange', all ways: a range behind all that are there. -/
theorem append_any (B : Nat) (v : Value) (ys : List Int) (s f l : Int) (w : World) (hown : Owns w B v ys) (hB : B ≤ w.heap.size) (hl : ys.length ≤ 4096)
    (hgood : GoodTo ys s) (hf0 : 0 ≤ f) (hsf : s ≤ f) (hfl : f ≤ l) (hf1 : f ≤ 1100000) :
    Calls Ybaf.prog 12 #[v, .int .i64 f, .int .i64 l] w fun e w' =>
      ∃ v' ys', e = .returned v' ∧ Owns w' B v' ys' ∧ w.grownBy w' v.ownBlock ∧ GoodTo ys' l ∧ ys'.length ≤ ys.length + 2 := by
  by_cases h0 : 0 < ys.length
  · by_cases hg : f - 1 ≤ ys.getD (ys.length - 1) 0
    · by_cases hlt : ys.getD (ys.length - 1) 0 < l
      · refine (append_widen B v ys f l w hown hl hf0 hf1 h0 hg hlt).mono ?_
        rintro e w' ⟨v', rfl, h1, h2⟩
        exact ⟨v', _, rfl, h1, h2, hgood.widen h0 (by omega), by simp⟩
      · refine (append_same B v ys f l w hown hl hf0 hf1 h0 hg hlt).mono ?_
        rintro e w' ⟨v', rfl, h1, h2⟩
        exact ⟨v', _, rfl, h1, h2, hgood.mono (by omega), by simp⟩
    · refine (append_add B v ys f l w hown hB hl hf0 hf1 (fun _ => hg)).mono ?_
      rintro e w' ⟨v', rfl, h1, h2⟩
      exact ⟨v', _, rfl, h1, h2, hgood.add (fun _ => by omega) hf0 hfl (by omega), by simp⟩
  · refine (append_add B v ys f l w hown hB hl hf0 hf1 (fun h => absurd h h0)).mono ?_
    rintro e w' ⟨v', rfl, h1, h2⟩
    exact ⟨v', _, rfl, h1, h2, hgood.add (fun h => absurd h h0) hf0 hfl (by omega), by simp⟩

end Go.Proofs.YbulkdjdoFmt
