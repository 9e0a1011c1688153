import Derived.Test.YbulkdjdoFmtG
namespace Go.Proofs.YbulkdjdoFmt
open Go.RowKit

theorem Reads.kept {w w' : World} {a : Option Addr} {ys : List Int} (h : Reads w a ys) (hb : Below w.heap.size w w') : Reads w' a ys := by
  rcases h with h | ⟨g, rfl, hg, hc⟩
  · exact .inl h
  · exact .inr ⟨g, rfl, Nat.lt_of_lt_of_le hg hb.size, fun j hj => by rw [hb.cell (p := ⟨g, j, none⟩) hg]; exact hc j hj⟩

theorem Reads.at {w : World} {a : Option Addr} {ys : List Int} (h : Reads w a ys) (h0 : 0 < ys.length) : ∃ g, a = some ⟨g, 0, none⟩ ∧ ∀ j, j < ys.length → w.cell? ⟨g, j, none⟩ = some (.int .i64 (ys.getD j 0)) := by
  rcases h with rfl | ⟨g, rfl, _, hc⟩
  · simp at h0
  · exact ⟨g, rfl, hc⟩

/-- No range of s holds range j of t: 'i' stands at the first range that does not end before it. -/
theorem not_in {ss ts : List Int} {s t : Int} {i j : Nat} (hgs : GoodTo ss s) (hgt : GoodTo ts t) (hi2 : i % 2 = 0) (hj2 : j % 2 = 0) (hj : j + 1 < ts.length)
    (hbef : ∀ i', i' % 2 = 0 → i' < i → ss.getD (i' + 1) 0 < ts.getD j 0)
    (h : i + 1 < ss.length → ts.getD j 0 ≤ ss.getD (i + 1) 0 ∧ (ts.getD j 0 < ss.getD i 0 ∨ ss.getD (i + 1) 0 < ts.getD (j + 1) 0)) : ¬ Mdl ss ts := by
  intro hm
  obtain ⟨q, h1, h2, h3, h4⟩ := hm j hj2 hj
  have hr := hgt.range (j / 2) (by omega)
  rw [show 2 * (j / 2) = j by omega] at hr
  by_cases e : q < i
  · have := hbef q h1 e; omega
  · by_cases e2 : q = i
    · subst e2
      have := h h2
      omega
    · have hik : i < q := by omega
      have := hgs.after hi2 h1 hik (by omega)
      have := h (by omega)
      omega

set_option maxHeartbeats 1600000 in
set_option maxRecDepth 100000 in
theorem includes_any (a b : Option Addr) (n m c1 c2 : Nat) (ss ts : List Int) (s t : Int) (w : World) (hn : ss.length = n) (hm : ts.length = m) (hl : n ≤ 4096) (hl2 : m ≤ 4096) (ha : Reads w a ss) (hb : Reads w b ts) (hgs : GoodTo ss s) (hgt : GoodTo ts t) :
    Calls Ybaf.prog 8 #[.agg #[.slice a n c1], .agg #[.slice b m c2]] w fun e w' => ∃ r, e = .returned (.bool r) ∧ (r = true ↔ Mdl ss ts) ∧ Below w.heap.size w w' := by
  have hev := hgs.even
  have hev2 := hgt.even
  rw [hn] at hev
  rw [hm] at hev2
  have hn' : Hid (ss.length = n) := hn
  have hm' : Hid (ts.length = m) := hm
  clear hn hm
  have ha' : Hid (Reads w a ss) := ha
  have hb' : Hid (Reads w b ts) := hb
  clear ha hb
  go_enter Ybaf.func8, Ybaf.ntmps8
  go_wp2_with fail
  obtain ⟨w0, hw0⟩ : ∃ w0, w0 = (w.alloc (.cells #[.slice a n c1] 25)).alloc (.cells #[.slice b m c2] 25) := ⟨_, rfl⟩
  have hc0 : w0.cell? ⟨w.heap.size, 0, none⟩ = some (.slice a n c1) := by rw [hw0, World.cell?_alloc_past _ _ _ (by simp)]; simp
  have hc1 : w0.cell? ⟨w.heap.size + 1, 0, none⟩ = some (.slice b m c2) := by rw [hw0, World.cell?_alloc_at _ _ _ _ (by simp)]; simp
  have hs0 : w0.heap.size = w.heap.size + 2 := by rw [hw0]; simp
  have hb0 : Below w.heap.size w w0 := by rw [hw0]; exact ((Below.refl _ _).alloc (Nat.le_refl _) _).alloc (by simp) _
  rw [← hw0]
  clear hw0
  have hs0' : Hid (w0.heap.size = w.heap.size + 2) := hs0
  clear hs0
  have ra : Hid (Reads w0 a ss) := ha'.out.kept hb0
  have rb : Hid (Reads w0 b ts) := hb'.out.kept hb0
  clear ha' hb'
  go_loopw [5, 6] (fun i j wr => ∃ i' j' : Nat, i' ≤ n ∧ i' % 2 = 0 ∧ j' ≤ m ∧ j' % 2 = 0 ∧ i = .int .i64 i' ∧ j = .int .i64 j' ∧ (j' < m → ∀ q, q % 2 = 0 → q < i' → ss.getD (q + 1) 0 < ts.getD j' 0) ∧ (∀ q, q < j' → q % 2 = 0 → q + 1 < m → InSome ss ts q) ∧ Below w0.heap.size w0 wr) (fun _ j _ => m + 2 - (intOf j).toNat)
  case atStart => exact ⟨0, 0, by omega, rfl, by omega, rfl, rfl, rfl, fun _ q _ h => by omega, fun q h => by omega, Below.refl _ _⟩
  case round =>
    obtain ⟨i, j, hi, hi2, hj, hj2, rfl, rfl, hbef, hdone, hbel⟩ := hrel
    have k0 : wr.cell? ⟨w.heap.size, 0, none⟩ = some (.slice a n c1) := by rw [hbel.cell (p := ⟨w.heap.size, 0, none⟩) (by rw [hs0'.out]; show w.heap.size < _; omega)]; exact hc0
    have k1 : wr.cell? ⟨w.heap.size + 1, 0, none⟩ = some (.slice b m c2) := by rw [hbel.cell (p := ⟨w.heap.size + 1, 0, none⟩) (by rw [hs0'.out]; show w.heap.size + 1 < _; omega)]; exact hc1
    have HD : Hid (∀ q, q < j → q % 2 = 0 → q + 1 < m → InSome ss ts q) := hdone
    clear hdone
    by_cases hlt : j < m
    · have HB : Hid (∀ q, q % 2 = 0 → q < i → ss.getD (q + 1) 0 < ts.getD j 0) := hbef hlt
      clear hbef
      obtain ⟨g2, rfl, hct⟩ := rb.out.at (by rw [hm'.out]; omega)
      have e3 : wr.cell? ⟨g2, j, none⟩ = some (.int .i64 (ts.getD j 0)) := by
        have := (rb.out.kept hbel).at (by rw [hm'.out]; omega)
        obtain ⟨g, h1, h2⟩ := this
        cases h1
        exact h2 j (by rw [hm'.out]; omega)
      have e4 : wr.cell? ⟨g2, j + 1, none⟩ = some (.int .i64 (ts.getD (j + 1) 0)) := by
        have := (rb.out.kept hbel).at (by rw [hm'.out]; omega)
        obtain ⟨g, h1, h2⟩ := this
        cases h1
        exact h2 (j + 1) (by rw [hm'.out]; omega)
      clear hct
      have hj0 : (j : Int) < (m : Int) := by omega
      have hj1 : (j : Int) + 1 < (m : Int) := by omega
      have hj4 : IntKind.i64.wrap ((j : Int) + 1) = (j : Int) + 1 := wrap_small _ (by omega) (by omega)
      generalize hf : ts.getD j 0 = f at e3
      generalize hlv : ts.getD (j + 1) 0 = l at e4
      have HF : Hid (ts.getD j 0 = f) := hf
      have HL : Hid (ts.getD (j + 1) 0 = l) := hlv
      clear hf hlv
      go_wp2_with fail
      go_quiet (fail)
      have hbel1 : Below w0.heap.size w0 (wr.drewN nq) := below_drewN hbel _
      go_wp2_with fail
      go_loop [5] (fun i => ∃ i' : Nat, i' ≤ n ∧ i' % 2 = 0 ∧ i = .int .i64 i' ∧ Hid (∀ q, q % 2 = 0 → q < i' → ss.getD (q + 1) 0 < ts.getD j 0)) (fun i => n + 2 - (intOf i).toNat)
      case atStart => exact ⟨i, hi, hi2, rfl, HB⟩
      case round =>
        clear HB
        obtain ⟨p, hp, hp2, rfl, HB⟩ := hrel
        by_cases hilt : p < n
        · obtain ⟨g, rfl, hcs⟩ := ra.out.at (by rw [hn'.out]; omega)
          have e1 : wr.cell? ⟨g, p, none⟩ = some (.int .i64 (ss.getD p 0)) := by
            obtain ⟨g, h1, h2⟩ := (ra.out.kept hbel).at (by rw [hn'.out]; omega)
            cases h1
            exact h2 p (by rw [hn'.out]; omega)
          have e2 : wr.cell? ⟨g, p + 1, none⟩ = some (.int .i64 (ss.getD (p + 1) 0)) := by
            obtain ⟨g, h1, h2⟩ := (ra.out.kept hbel).at (by rw [hn'.out]; omega)
            cases h1
            exact h2 (p + 1) (by rw [hn'.out]; omega)
          clear hcs
          generalize hx : ss.getD p 0 = x at e1
          generalize hx1 : ss.getD (p + 1) 0 = x1 at e2
          have HX : Hid (ss.getD p 0 = x) := hx
          have HX1 : Hid (ss.getD (p + 1) 0 = x1) := hx1
          clear hx hx1
          have hi0 : (p : Int) < (n : Int) := by omega
          have hi1 : (p : Int) + 1 < (n : Int) := by omega
          by_cases h1 : x1 < f
          · go_wp2_with fail
            go_round
            case rel =>
              refine ⟨p + 2, by omega, by omega, by go_num, fun q h1' h2' => ?_⟩
              by_cases e : q < p
              · exact HB.out q h1' e
              · have : q = p := by omega
                subst this
                rw [HX1.out, HF.out]; exact h1
            case measure => simp [intOf]; omega
          · have hne : ((p : Int) == (n : Int)) = false := by simp; omega
            have HN : Hid (¬ (x ≤ f ∧ l ≤ x1) → ¬ Mdl ss ts) := fun h =>
              not_in hgs hgt hp2 hj2 (by rw [hm'.out]; omega) HB.out (fun _ => by
                rw [HX.out, HX1.out, HF.out, HL.out]
                omega)
            by_cases h2 : f < x
            · go_wp2_with fail
              go_ret
              exact .inl ⟨rfl, HN.out (by omega), hb0.trans (hbel1.mono (by rw [hs0'.out]; omega))⟩
            · by_cases h3 : x1 < l
              · go_wp2_with fail
                go_ret
                exact .inl ⟨rfl, HN.out (by omega), hb0.trans (hbel1.mono (by rw [hs0'.out]; omega))⟩
              · have HI : Hid (InSome ss ts j) := ⟨p, hp2, by rw [hn'.out]; omega, by rw [HX.out, HF.out]; omega, by rw [HX1.out, HL.out]; omega⟩
                go_wp2_with fail
                go_roundw
                case rel =>
                  refine ⟨p, j + 2, hp, hp2, by omega, by omega, rfl, by go_num, fun hj' q h1' h2' => ?_, fun q h1' h2' h3' => ?_, hbel1⟩
                  · have := HB.out q h1' h2'
                    have r1 := hgt.range (j / 2) (by rw [hm'.out]; omega)
                    have r2 := hgt.gap (j / 2) (by rw [hm'.out]; omega)
                    rw [show 2 * (j / 2) = j by omega] at r1 r2
                    omega
                  · by_cases e : q < j
                    · exact HD.out q e h2' h3'
                    · have : q = j := by omega
                      subst this
                      exact HI.out
                case measure => simp [intOf]; omega
        · have hpn : p = n := by omega
          subst hpn
          have HN : Hid (¬ Mdl ss ts) := not_in hgs hgt hp2 hj2 (by rw [hm'.out]; omega) HB.out (fun h => by rw [hn'.out] at h; omega)
          go_wp2_with fail
          go_ret
          exact .inl ⟨rfl, HN.out, hb0.trans (hbel1.mono (by rw [hs0'.out]; omega))⟩
    · go_wp2_with fail
      go_ret
      exact ⟨true, rfl, ⟨fun _ q h1 h2 => HD.out q (by rw [hm'.out] at h2; omega) h1 (by rw [← hm'.out]; exact h2), fun _ => rfl⟩, hb0.trans (hbel.mono (by rw [hs0'.out]; omega))⟩

end Go.Proofs.YbulkdjdoFmt
