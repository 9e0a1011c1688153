import Derived.Test.YbulkdjdoFmtF
namespace Go.Proofs.YbulkdjdoFmt
open Go.RowKit

theorem step_iff {ss ts : List Int} {j n i : Nat} {r r' : Bool} (hi2 : i % 2 = 0) (hilt : i + 1 < n)
    (hr : r = true ↔ ∃ i_1, i_1 % 2 = 0 ∧ i_1 < i ∧ i_1 + 1 < n ∧ ss.getD i_1 0 ≤ ts.getD j 0 ∧ ts.getD (j + 1) 0 ≤ ss.getD (i_1 + 1) 0)
    (h : r' = true ↔ (r = true ∨ (ss.getD i 0 ≤ ts.getD j 0 ∧ ts.getD (j + 1) 0 ≤ ss.getD (i + 1) 0))) :
    (r' = true ↔ ∃ i_1, i_1 % 2 = 0 ∧ i_1 < i + 2 ∧ i_1 + 1 < n ∧ ss.getD i_1 0 ≤ ts.getD j 0 ∧ ts.getD (j + 1) 0 ≤ ss.getD (i_1 + 1) 0) := by
  rw [h, hr]
  constructor
  · rintro (⟨q, h1, h2, h3⟩ | ⟨h1, h2⟩)
    · exact ⟨q, h1, by omega, h3⟩
    · exact ⟨i, hi2, by omega, hilt, h1, h2⟩
  · rintro ⟨q, h1, h2, h3, h4, h5⟩
    by_cases e : q < i
    · exact .inl ⟨q, h1, e, h3, h4, h5⟩
    · have : q = i := by omega
      subst this
      exact .inr ⟨h4, h5⟩

theorem not_mdl {ss ts : List Int} {j i : Nat} (hj2 : j % 2 = 0) (hj : j + 1 < ts.length) (hi : ¬ i + 1 < ss.length)
    (hr : false = true ↔ ∃ i_1, i_1 % 2 = 0 ∧ i_1 < i ∧ i_1 + 1 < ss.length ∧ ss.getD i_1 0 ≤ ts.getD j 0 ∧ ts.getD (j + 1) 0 ≤ ss.getD (i_1 + 1) 0) (h : Mdl ss ts) : False := by
  obtain ⟨q, h1, h2, h3, h4⟩ := h j hj2 hj
  have := hr.2 ⟨q, h1, by omega, h2, h3, h4⟩
  cases this

theorem done_next {ss ts : List Int} {j i n m : Nat} (hj2 : j % 2 = 0) (hn : ss.length = n) (hd : ∀ j', j' < j → j' % 2 = 0 → j' + 1 < m → InSome ss ts j')
    (hr : true = true ↔ ∃ i_1, i_1 % 2 = 0 ∧ i_1 < i ∧ i_1 + 1 < n ∧ ss.getD i_1 0 ≤ ts.getD j 0 ∧ ts.getD (j + 1) 0 ≤ ss.getD (i_1 + 1) 0) :
    ∀ j', j' < j + 2 → j' % 2 = 0 → j' + 1 < m → InSome ss ts j' := by
  intro j' h1 h2 h3
  by_cases e : j' < j
  · exact hd j' e h2 h3
  · have : j' = j := by omega
    subst this
    obtain ⟨q, g1, _, g3, g4⟩ := hr.1 rfl
    exact ⟨q, g1, by omega, g4⟩

set_option maxHeartbeats 1600000 in
set_option maxRecDepth 100000 in
theorem model_any (a b : Option Addr) (n m c1 c2 : Nat) (ss ts : List Int) (w : World) (hn : ss.length = n) (hm : ts.length = m) (hl : n ≤ 4096) (hl2 : m ≤ 4096) (ha : Reads w a ss) (hb : Reads w b ts) :
    Calls Ybaf.prog 9 #[.slice a n c1, .slice b m c2] w fun e w' => ∃ r, e = .returned (.bool r) ∧ (r = true ↔ Mdl ss ts) ∧ Below w.heap.size w w' := by
  have hn' : Hid (ss.length = n) := hn
  have hm' : Hid (ts.length = m) := hm
  clear hn hm
  have ha' : Hid (Reads w a ss) := ha
  have hb' : Hid (Reads w b ts) := hb
  clear ha hb
  go_enter Ybaf.func9, Ybaf.ntmps9
  go_wp2_with fail
  go_loopw [5] (fun i wr => ∃ j : Nat, j ≤ m + 1 ∧ j % 2 = 0 ∧ i = .int .i64 j ∧ (∀ j', j' < j → j' % 2 = 0 → j' + 1 < m → InSome ss ts j') ∧ Below w.heap.size w wr) (fun i _ => m + 2 - (intOf i).toNat)
  case atStart => exact ⟨0, by omega, rfl, rfl, fun j' h => by omega, Below.refl _ _⟩
  case round =>
    obtain ⟨j, hj, hj2, rfl, hdone, hbel⟩ := hrel
    have HD : Hid (∀ j', j' < j → j' % 2 = 0 → j' + 1 < m → InSome ss ts j') := hdone
    clear hdone
    by_cases hlt : j + 1 < m
    · have hj0 : (j : Int) < (m : Int) := by omega
      have hj1 : (j : Int) + 1 < (m : Int) := by omega
      have hj4 : IntKind.i64.wrap ((j : Int) + 1) = (j : Int) + 1 := wrap_small _ (by omega) (by omega)
      go_wp2_with fail
      go_loopw [6, 7] (fun f i wx => ∃ (i' : Nat) (r : Bool), i' ≤ n + 1 ∧ i' % 2 = 0 ∧ i = .int .i64 i' ∧ f = .bool r ∧ (r = true ↔ ∃ i, i % 2 = 0 ∧ i < i' ∧ i + 1 < n ∧ ss.getD i 0 ≤ ts.getD j 0 ∧ ts.getD (j + 1) 0 ≤ ss.getD (i + 1) 0) ∧ Below w.heap.size w wx) (fun _ i _ => n + 2 - (intOf i).toNat)
      case atStart => exact ⟨0, false, by omega, rfl, rfl, rfl, by simp, hbel⟩
      case round =>
        obtain ⟨i, r, hi, hi2, rfl, rfl, hr, hbel2⟩ := hrel
        have HR : Hid (r = true ↔ ∃ i_1, i_1 % 2 = 0 ∧ i_1 < i ∧ i_1 + 1 < n ∧ ss.getD i_1 0 ≤ ts.getD j 0 ∧ ts.getD (j + 1) 0 ≤ ss.getD (i_1 + 1) 0) := hr
        clear hr
        by_cases hilt : i + 1 < n
        · rcases ha'.out with h | ⟨g, rfl, hg, hc⟩
          · rw [h] at hn'; have := hn'.out; simp at this; omega
          rcases hb'.out with h | ⟨g2, rfl, hg2, hc2⟩
          · rw [h] at hm'; have := hm'.out; simp at this; omega
          have e1 : wr.cell? ⟨g, i, none⟩ = some (.int .i64 (ss.getD i 0)) := by rw [hbel2.cell (p := ⟨g, i, none⟩) hg]; exact hc i (by rw [hn'.out]; omega)
          have e2 : wr.cell? ⟨g, i + 1, none⟩ = some (.int .i64 (ss.getD (i + 1) 0)) := by rw [hbel2.cell (p := ⟨g, i + 1, none⟩) hg]; exact hc (i + 1) (by rw [hn'.out]; omega)
          have e3 : wr.cell? ⟨g2, j, none⟩ = some (.int .i64 (ts.getD j 0)) := by rw [hbel2.cell (p := ⟨g2, j, none⟩) hg2]; exact hc2 j (by rw [hm'.out]; omega)
          have e4 : wr.cell? ⟨g2, j + 1, none⟩ = some (.int .i64 (ts.getD (j + 1) 0)) := by rw [hbel2.cell (p := ⟨g2, j + 1, none⟩) hg2]; exact hc2 (j + 1) (by rw [hm'.out]; omega)
          have hi0 : (i : Int) < (n : Int) := by omega
          have hi1 : (i : Int) + 1 < (n : Int) := by omega
          have hi4 : IntKind.i64.wrap ((i : Int) + 1) = (i : Int) + 1 := wrap_small _ (by omega) (by omega)
          clear ha' hb' hc hc2
          have hstep := fun r' => step_iff (r := r) (r' := r') (n := n) (i := i) hi2 hilt HR.out
          have HS : Hid (∀ r', (r' = true ↔ (r = true ∨ (ss.getD i 0 ≤ ts.getD j 0 ∧ ts.getD (j + 1) 0 ≤ ss.getD (i + 1) 0))) → (r' = true ↔ ∃ i_1, i_1 % 2 = 0 ∧ i_1 < i + 2 ∧ i_1 + 1 < n ∧ ss.getD i_1 0 ≤ ts.getD j 0 ∧ ts.getD (j + 1) 0 ≤ ss.getD (i_1 + 1) 0)) := hstep
          clear hstep HR
          generalize ss.getD i 0 = x at e1 HS
          generalize ss.getD (i + 1) 0 = x1 at e2 HS
          generalize hy : ts.getD j 0 = y at e3 HS ⊢
          generalize hy1 : ts.getD (j + 1) 0 = y1 at e4 HS ⊢
          clear hy hy1
          by_cases h1 : x ≤ y
          · by_cases h2 : y1 ≤ x1
            · go_wp2_with fail
              go_quiet (fail)
              go_wp2_with fail
              go_roundw
              case rel => exact ⟨i + 2, true, by omega, by omega, by go_num, rfl, HS.out true (by simp [h1, h2]), below_drewN hbel2 _⟩
              case measure => simp [intOf]; omega
            · go_wp2_with fail
              go_quiet (fail)
              go_wp2_with fail
              go_roundw
              case rel => exact ⟨i + 2, r, by omega, by omega, by go_num, rfl, HS.out r (by simp; intros; omega), below_drewN hbel2 _⟩
              case measure => simp [intOf]; omega
          · have hd : decide (x ≤ y) = false := by simpa using h1
            go_wp2_with fail
            go_quiet (fail)
            go_wp2_with fail
            go_roundw
            case rel => exact ⟨i + 2, r, by omega, by omega, by go_num, rfl, HS.out r (by simp; intros; omega), below_drewN hbel2 _⟩
            case measure => simp [intOf]; omega
        · cases r
          · go_wp2_with fail
            go_ret
            exact ⟨false, rfl, ⟨fun h => (by cases h), fun h => (not_mdl hj2 (by rw [hm'.out]; exact hlt) (by rw [hn'.out]; exact hilt) (by rw [hn'.out]; exact HR.out) h).elim⟩, hbel2⟩
          · go_wp2_with fail
            go_roundw
            case rel => exact ⟨j + 2, by omega, by omega, by go_num, done_next hj2 hn'.out HD.out HR.out, hbel2⟩
            case measure => simp [intOf]; omega
    · go_wp2_with fail
      go_ret
      exact ⟨true, rfl, ⟨fun _ j' h1 h2 => HD.out j' (by rw [hm'.out] at h2; omega) h1 (by rw [← hm'.out]; exact h2), fun _ => rfl⟩, hbel⟩

end Go.Proofs.YbulkdjdoFmt
