/-
  Plain facts on lists of numbers: no Go in sight.
-/
namespace Go.Proofs.YbulkdjdoFmt

/-- ys never descends, its members lie between 0 and s. -/
def AscTo (ys : List Int) (s : Int) : Prop :=
  (∀ k, k < ys.length → 0 ≤ ys.getD k 0 ∧ ys.getD k 0 ≤ s) ∧ ∀ k, k + 1 < ys.length → ys.getD k 0 ≤ ys.getD (k + 1) 0

theorem getD_app (a b : List Int) (k : Nat) : (a ++ b).getD k 0 = if k < a.length then a.getD k 0 else b.getD (k - a.length) 0 := by
  simp only [List.getD_eq_getElem?_getD]
  split
  · rename_i h; rw [List.getElem?_append_left h]
  · rename_i h; rw [List.getElem?_append_right (by omega)]

theorem AscTo.nil (s : Int) : AscTo [] s := ⟨by simp, by simp⟩

theorem AscTo.mono {ys : List Int} {s s' : Int} (h : AscTo ys s) (hs : s ≤ s') : AscTo ys s' :=
  ⟨fun k hk => ⟨(h.1 k hk).1, by have := (h.1 k hk).2; omega⟩, h.2⟩

theorem AscTo.snoc {ys : List Int} {s s' : Int} (h : AscTo ys s) (hs : s ≤ s') (h0 : 0 ≤ s') : AscTo (ys ++ [s']) s' := by
  have g : ∀ k, k < ys.length → (ys ++ [s']).getD k 0 = ys.getD k 0 := fun k hk => by rw [getD_app, if_pos hk]
  have g1 : (ys ++ [s']).getD ys.length 0 = s' := by rw [getD_app, if_neg (by omega)]; simp
  refine ⟨fun k hk => ?_, fun k hk => ?_⟩
  · simp at hk
    by_cases e : k < ys.length
    · rw [g k e]; have := h.1 k e; omega
    · have : k = ys.length := by omega
      subst this; rw [g1]; omega
  · simp at hk
    rw [g k (by omega)]
    by_cases e : k + 1 < ys.length
    · rw [g _ e]; exact h.2 k e
    · have : k + 1 = ys.length := by omega
      rw [this, g1]; have := h.1 k (by omega); omega

theorem AscTo.snoc2 {ys : List Int} {s a b : Int} (h : AscTo ys s) (hs : s ≤ a) (h0 : 0 ≤ a) (hab : a ≤ b) : AscTo (ys ++ [a, b]) b := by
  have := (h.snoc hs h0).snoc hab (by omega)
  simpa using this

/-- ys is a list of closed ranges (first, last, first, last, ..) in ascending order that never touch; its members lie between 0 and s. -/
structure GoodTo (ys : List Int) (s : Int) : Prop where
  even : ys.length % 2 = 0
  range : ∀ k, 2 * k + 1 < ys.length → 0 ≤ ys.getD (2 * k) 0 ∧ ys.getD (2 * k) 0 ≤ ys.getD (2 * k + 1) 0 ∧ ys.getD (2 * k + 1) 0 ≤ s
  gap : ∀ k, 2 * k + 2 < ys.length → ys.getD (2 * k + 1) 0 + 1 < ys.getD (2 * k + 2) 0

theorem GoodTo.nil (s : Int) : GoodTo [] s := ⟨rfl, by simp, by simp⟩

theorem GoodTo.mono {ys : List Int} {s s' : Int} (h : GoodTo ys s) (hs : s ≤ s') : GoodTo ys s' :=
  ⟨h.even, fun k hk => by have := h.range k hk; omega, h.gap⟩

/-- A member of such a list. -/
theorem GoodTo.mem {ys : List Int} {s : Int} (h : GoodTo ys s) (k : Nat) (hk : k < ys.length) : 0 ≤ ys.getD k 0 ∧ ys.getD k 0 ≤ s := by
  have he := h.even
  have e : k = 2 * (k / 2) ∨ k = 2 * (k / 2) + 1 := by omega
  have hr := h.range (k / 2) (by omega)
  rcases e with e | e <;> rw [e] <;> omega

theorem getD_set (ys : List Int) (i : Nat) (x : Int) (k : Nat) (hi : i < ys.length) : (ys.set i x).getD k 0 = if k = i then x else ys.getD k 0 := by
  simp only [List.getD_eq_getElem?_getD, List.getElem?_set]
  by_cases h : i = k
  · subst h; simp [hi]
  · simp [h, Ne.symm h]

/-- The last range is widened. -/
theorem GoodTo.widen {ys : List Int} {s x : Int} (h : GoodTo ys s) (h0 : 0 < ys.length) (hs : s ≤ x) : GoodTo (ys.set (ys.length - 1) x) x := by
  have he := h.even
  have g := fun k => getD_set ys (ys.length - 1) x k (by omega)
  refine ⟨by simpa using he, fun k hk => ?_, fun k hk => ?_⟩
  · simp at hk
    have hr := h.range k hk
    rw [g, g, if_neg (by omega)]
    split
    · omega
    · omega
  · simp at hk
    have hr := h.gap k hk
    rw [g, g, if_neg (by omega), if_neg (by omega)]
    exact hr

/-- A range behind all others, which it does not touch. -/
theorem GoodTo.add {ys : List Int} {s f l : Int} (h : GoodTo ys s) (hg : 0 < ys.length → ys.getD (ys.length - 1) 0 + 1 < f) (h0 : 0 ≤ f) (hfl : f ≤ l) (hs : s ≤ l) : GoodTo (ys ++ [f, l]) l := by
  have he := h.even
  have g := fun k => getD_app ys [f, l] k
  refine ⟨by simp; omega, fun k hk => ?_, fun k hk => ?_⟩
  · simp at hk
    rw [g, g]
    by_cases e : 2 * k + 1 < ys.length
    · have hr := h.range k e
      rw [if_pos (by omega), if_pos (by omega)]; omega
    · have : 2 * k = ys.length := by omega
      rw [if_neg (by omega), if_neg (by omega), show 2 * k - ys.length = 0 by omega, show 2 * k + 1 - ys.length = 1 by omega]
      simp; omega
  · simp at hk
    rw [g, g, if_pos (by omega)]
    by_cases e : 2 * k + 2 < ys.length
    · rw [if_pos e]; exact h.gap k e
    · have : 2 * k + 2 = ys.length := by omega
      rw [if_neg e, show 2 * k + 2 - ys.length = 0 by omega]
      have := hg (by omega)
      rw [show ys.length - 1 = 2 * k + 1 by omega] at this
      simpa using this

/-- Range j of t lies inside a range of s (both counted by their first bound's place). -/
def InSome (s t : List Int) (j : Nat) : Prop := ∃ i, i % 2 = 0 ∧ i + 1 < s.length ∧ s.getD i 0 ≤ t.getD j 0 ∧ t.getD (j + 1) 0 ≤ s.getD (i + 1) 0

/-- Every range of t lies inside a range of s. -/
def Mdl (s t : List Int) : Prop := ∀ j, j % 2 = 0 → j + 1 < t.length → InSome s t j

/-- The ranges of a list of ranges lie in order. -/
theorem GoodTo.after {ys : List Int} {s : Int} (h : GoodTo ys s) {i k : Nat} (hi : i % 2 = 0) (hk : k % 2 = 0) (hik : i < k) (hlt : k < ys.length) : ys.getD (i + 1) 0 < ys.getD k 0 := by
  have key : ∀ d, ∀ i, i % 2 = 0 → i + 2 * d + 2 < ys.length → ys.getD (i + 1) 0 < ys.getD (i + 2 * d + 2) 0 := by
    intro d
    induction d with
    | zero =>
      intro i hi hl
      have := h.gap (i / 2) (by omega)
      rw [show 2 * (i / 2) = i by omega] at this
      show _ < ys.getD (i + 2) 0
      omega
    | succ d ih =>
      intro i hi hl
      have a := ih i hi (by omega)
      have b := h.range ((i + 2 * d + 2) / 2) (by omega)
      have c := h.gap ((i + 2 * d + 2) / 2) (by omega)
      rw [show 2 * ((i + 2 * d + 2) / 2) = i + 2 * d + 2 by omega] at b c
      rw [show i + 2 * (d + 1) + 2 = i + 2 * d + 2 + 2 by omega]
      omega
  obtain ⟨d, rfl⟩ : ∃ d, k = i + 2 * d + 2 := ⟨(k - i - 2) / 2, by omega⟩
  exact key d i hi hlt

end Go.Proofs.YbulkdjdoFmt
