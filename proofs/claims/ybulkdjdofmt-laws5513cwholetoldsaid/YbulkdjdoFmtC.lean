import Derived.Test.YbulkdjdoFmtB
import Derived.Deep.RegionHeld3
namespace Go.Proofs.YbulkdjdoFmt
open Go.RowKit

theorem ownsRow_lower {w : World} {base base' : Nat} {e : TypeId} {size : Nat} {v : Value} {n : Nat} {xs : List Value} (h : w.ownsRow base e size v n xs) (hb : base' ≤ base) : w.ownsRow base' e size v n xs :=
  ⟨h.1, h.2.imp id (fun ⟨g, cap, cur, h1, h2, h3⟩ => ⟨g, cap, cur, h1, Nat.le_trans hb h2, h3⟩)⟩

set_option maxHeartbeats 800000 in
/-- 'NewSequence' of bounds that never descend. -/
theorem seq_some (g cap n : Nat) (xs : List Int) (s : Int) (w : World) (hn : xs.length = n) (hl : n ≤ 4096) (he : n % 2 = 0) (hgl : g < w.heap.size)
    (hc : ∀ j, j < n → w.cell? ⟨g, j, none⟩ = some (.int .i64 (xs.getD j 0))) (hasc : AscTo xs s) (hs : s ≤ 1100000) (hs0 : 0 ≤ s) :
    Calls Ybaf.prog 4 #[.slice (some ⟨g, 0, none⟩) n cap] w fun e w' =>
      ∃ v ys, e = .returned (.tuple #[.agg #[v], .nilIface]) ∧ GoodTo ys s ∧ ys.length ≤ n ∧ Owns w' w.heap.size v ys ∧ Below w.heap.size w w' := by
  have hn' : Hid (xs.length = n) := hn
  clear hn
  have he1 : ((n : Int) % 2 != 0) = false := by simp; omega
  have hc1 : ∀ j, j < n → (w.alloc (.cells #[.slice none 0 0] 25)).cell? ⟨g, j, none⟩ = some (.int .i64 (xs.getD j 0)) := fun j hj => by
    rw [World.cell?_alloc_past _ _ _ hgl]; exact hc j hj
  go_enter Ybaf.func4, Ybaf.ntmps4
  go_wp2_with fail
  go_loop [20] (fun i => ∃ k : Nat, k ≤ n ∧ i = .int .i64 k) (fun i => n - (intOf i).toNat)
  case atStart => exact ⟨0, by omega, rfl⟩
  case round =>
    obtain ⟨k, hk, rfl⟩ := hrel
    by_cases hlt : k < n
    · have hx := hasc.1 k (by rw [hn'.out]; omega)
      have hck := hc1 k hlt
      by_cases hk0 : k = 0
      · subst hk0
        clear hc1
        generalize xs.getD 0 0 = x at hx hck
        go_wp2_with fail
        go_round
        case rel => exact ⟨1, by omega, by go_num⟩
        case measure => simp [intOf]; omega
      · obtain ⟨m, rfl⟩ : ∃ m, k = m + 1 := ⟨k - 1, by omega⟩
        have hx1 := hasc.2 m (by rw [hn'.out]; omega)
        have hcm := hc1 m (by omega)
        clear hc1
        generalize xs.getD (m + 1) 0 = x at hx hck hx1
        generalize xs.getD m 0 = y at hcm hx1
        go_wp2_with fail
        go_round
        case rel => exact ⟨m + 2, by omega, by go_num⟩
        case measure => simp [intOf]; omega
    · go_wp2_with fail
      clear hlt hk
      go_loopw [6, 7] (fun o i wr => ∃ (m : Nat) (ys : List Int) (t : Int), m ≤ n ∧ m % 2 = 0 ∧ i = .int .i64 m ∧ GoodTo ys t ∧ 0 ≤ t ∧ t ≤ s ∧ (m < n → t ≤ xs.getD m 0) ∧ ys.length ≤ m ∧ Owns wr (w.heap.size + 1) o ys ∧ Below (w.heap.size + 1) (w.alloc (.cells #[.slice none 0 0] 25)) wr) (fun _ i _ => n - (intOf i).toNat)
      case atStart => exact ⟨0, [], 0, by omega, rfl, rfl, GoodTo.nil _, by omega, by omega, fun h => (hasc.1 0 (by rw [hn'.out]; omega)).1, by simp, World.ownsRow_nil _ _ _ _, Below.refl _ _⟩
      case round =>
        obtain ⟨m, ys, t, hm, hm2, rfl, hgood, ht0, hts, htn, hyl, hown, hbel⟩ := hrel
        by_cases hlt : m < n
        · have hx := hasc.1 m (by rw [hn'.out]; omega)
          have hx1 := hasc.1 (m + 1) (by rw [hn'.out]; omega)
          have hx2 := hasc.2 m (by rw [hn'.out]; omega)
          have hx3 : m + 2 < n → xs.getD (m + 1) 0 ≤ xs.getD (m + 2) 0 := fun h => hasc.2 (m + 1) (by rw [hn'.out]; omega)
          have hca : wr.cell? ⟨g, m, none⟩ = some (.int .i64 (xs.getD m 0)) := by rw [hbel.cell (p := ⟨g, m, none⟩) (by show g < _; omega)]; exact hc1 _ (by omega)
          have hcb : wr.cell? ⟨g, m + 1, none⟩ = some (.int .i64 (xs.getD (m + 1) 0)) := by rw [hbel.cell (p := ⟨g, m + 1, none⟩) (by show g < _; omega)]; exact hc1 _ (by omega)
          have htn' := htn hlt
          have hbs := hbel.size
          simp only [World.size_alloc] at hbs
          have HX3 : Hid (m + 2 < n → xs.getD (m + 1) 0 ≤ xs.getD (m + 2) 0) := hx3
          clear hc1 htn hx3
          generalize hf : xs.getD m 0 = f at hx hx2 hca htn'
          generalize hll : xs.getD (m + 1) 0 = l at hx1 hx2 hcb HX3
          clear hf hll
          have hne : some g ≠ u6.ownBlock := fun h => by have := (World.ownsRow.lt hown g h.symm).1; omega
          have hi1 : (m : Int) + 1 < (n : Int) := by omega
          have hi0 : (m : Int) < (n : Int) := by omega
          have hi2 : (0 : Int) ≤ (m : Int) := by omega
          have hi3 : (0 : Int) ≤ (m : Int) + 1 := by omega
          have hi4 : IntKind.i64.wrap ((m : Int) + 1) = (m : Int) + 1 := wrap_small _ hi3 (by omega)
          go_wp2_with fail
          go_region_held3 (fun w' => w'.cell? ⟨g, m, none⟩ = some (.int .i64 f) ∧ w'.cell? ⟨g, m + 1, none⟩ = some (.int .i64 l)) (go_keep) ((go_at_call 12; refine (append_any (w.heap.size + 1) _ ys t f l wr.drew hown hbs (by omega) hgood (by omega) (by omega) (by omega) (by omega)).mono ?_; rintro e w2 ⟨v', ys', rfl, hown2, hg2, hgood2, hyl2⟩; have hk1 := hg2.cell (a := ⟨g, m, none⟩) hca hne; have hk2 := hg2.cell (a := ⟨g, m + 1, none⟩) hcb hne))
          go_wp2
          go_roundw
          case rel =>
            refine ⟨m + 2, ys', l, by omega, by omega, by go_num, hgood2, by omega, by omega, HX3.out, by omega, hown2, ?_⟩
            exact hbel.drew.grown hg2 (by simpa using hbs) (fun j hj => (World.ownsRow.lt hown j hj).1)
          case measure => simp [intOf]; omega
        · have hcr : wr.cell? ⟨w.heap.size, 0, none⟩ = some (.slice none 0 0) := by rw [hbel.cell (p := ⟨w.heap.size, 0, none⟩) (by show w.heap.size < _; omega)]; simp
          have hfr : wr.frozen? ⟨w.heap.size, 0, none⟩ = false := by rw [hbel.frozen (p := ⟨w.heap.size, 0, none⟩) (by show w.heap.size < _; omega)]; simp
          have hbs := hbel.size
          simp only [World.size_alloc] at hbs
          obtain ⟨a6, n6, c6, h6⟩ : ∃ a n c, u6 = .slice a n c := by
            rcases hown.form with ⟨h, _⟩ | ⟨g, c, h, _⟩
            · exact ⟨_, _, _, h⟩
            · exact ⟨_, _, _, h⟩
          subst h6
          have hfin : Owns (wr.setCell ⟨w.heap.size, 0, none⟩ (.slice a6 n6 c6)) w.heap.size (.slice a6 n6 c6) ys := ownsRow_lower (ownsRow_setCell_below hown (a := ⟨w.heap.size, 0, none⟩) (by show w.heap.size < _; omega) _) (by omega)
          have hlast : Below w.heap.size w (wr.setCell ⟨w.heap.size, 0, none⟩ (.slice a6 n6 c6)) :=
            ((((Below.refl _ _).alloc (Nat.le_refl _) _).trans (hbel.mono (by omega))).setCell (Nat.le_refl _) _)
          have HF : Hid (Owns (wr.setCell ⟨w.heap.size, 0, none⟩ (.slice a6 n6 c6)) w.heap.size (.slice a6 n6 c6) ys) := hfin
          have HL : Hid (Below w.heap.size w (wr.setCell ⟨w.heap.size, 0, none⟩ (.slice a6 n6 c6))) := hlast
          have hcs : (wr.setCell ⟨w.heap.size, 0, none⟩ (.slice a6 n6 c6)).cell? ⟨w.heap.size, 0, none⟩ = some (.slice a6 n6 c6) := World.cell?_setCell_same _ _ _ hcr
          clear hfin hlast hown hbel
          go_wp2_with fail
          exact bodyPost_ret (v := .tuple #[.agg #[.slice a6 n6 c6], .nilIface]) (by simp [results, Ybaf.results4, go_sem, hcs]) rfl ⟨_, ys, rfl, hgood.mono hts, by omega, HF.out, HL.out⟩

set_option maxHeartbeats 800000 in
/-- 'NewSequence' of no bounds. -/
theorem seq_zero (w : World) :
    Calls Ybaf.prog 4 #[.slice none 0 0] w fun e w' =>
      ∃ v ys, e = .returned (.tuple #[.agg #[v], .nilIface]) ∧ GoodTo ys 0 ∧ ys.length ≤ 0 ∧ Owns w' w.heap.size v ys ∧ Below w.heap.size w w' := by
  go_enter Ybaf.func4, Ybaf.ntmps4
  go_wp2_with fail
  refine wp_loop_rounds 1 ?_
  rw [rounds_succ]
  go_wp2_with fail
  refine wp_loop_rounds 1 ?_
  rw [rounds_succ]
  go_wp2_with fail
  refine bodyPost_ret (v := .tuple #[.agg #[.slice none 0 0], .nilIface]) (by simp [results, Ybaf.results4, go_sem]) rfl ⟨_, [], rfl, GoodTo.nil _, by simp, World.ownsRow_nil _ _ _ _, ?_⟩
  exact (Below.refl _ _).alloc (Nat.le_refl _) _

theorem seq_any {B : Nat} {v : Value} {xs : List Int} {s : Int} {w : World} (hown : Owns w B v xs) (hl : xs.length ≤ 4096) (he : xs.length % 2 = 0) (hasc : AscTo xs s) (hs : s ≤ 1100000) (hs0 : 0 ≤ s) :
    Calls Ybaf.prog 4 #[v] w fun e w' =>
      ∃ v ys, e = .returned (.tuple #[.agg #[v], .nilIface]) ∧ GoodTo ys s ∧ ys.length ≤ xs.length ∧ Owns w' w.heap.size v ys ∧ Below w.heap.size w w' := by
  rcases hown.form with ⟨rfl, rfl⟩ | ⟨g, cap, rfl, _, hgl, hc, _⟩
  · refine (seq_zero w).mono ?_
    rintro e w' ⟨v, ys, rfl, h1, h2, h3, h4⟩
    exact ⟨v, ys, rfl, h1.mono (by omega), h2, h3, h4⟩
  · exact seq_some g cap xs.length xs s w rfl hl he hgl hc hasc hs hs0

end Go.Proofs.YbulkdjdoFmt
