/-
  PLAIN: on an arc that is not passed over, the two ways of telling the arc's keys agree. No Go in sight.
-/
import Derived.Test.YbulkdjggFmtPlain
namespace Go.Proofs.YbulkdjggFmt

theorem firstGe_spec (pts : Array Pt) (h : Nat) : (∀ t, t < firstGe pts h → pts[t]!.1 < h) ∧ (firstGe pts h < pts.size → h ≤ pts[firstGe pts h]!.1) := by
  unfold firstGe
  cases hf : (List.range pts.size).find? (fun t => decide (h ≤ pts[t]!.1)) with
  | none =>
    rw [List.find?_range_eq_none] at hf
    simp only [Option.getD_none]
    refine ⟨fun t ht => ?_, fun hh => by omega⟩
    have := hf t ht
    simp at this
    omega
  | some i =>
    rw [List.find?_range_eq_some] at hf
    obtain ⟨h1, h2, h3⟩ := hf
    simp only [Option.getD_some]
    refine ⟨fun t ht => ?_, fun _ => by simpa using h1⟩
    have := h3 t ht
    simp at this
    omega

theorem sub64_ge {a b : Nat} (hb : b ≤ a) (ha : a < 18446744073709551616) : sub64 a b = a - b := by unfold sub64 U64; omega
theorem sub64_less {a b : Nat} (hb : a < b) (ha : b < 18446744073709551616) : sub64 a b = 18446744073709551616 + a - b := by unfold sub64 U64; omega

/-- The circular distance, less one. -/
theorem dist_after {h a : Nat} (hh : h < 18446744073709551616) (h1 : a < h) : sub64 (sub64 h a) 1 = h - a - 1 := by
  rw [sub64_ge (Nat.le_of_lt h1) hh, sub64_ge (by omega) (by omega)]
theorem dist_upto {h a : Nat} (ha : a < 18446744073709551616) (h1 : h < a) : sub64 (sub64 h a) 1 = 18446744073709551616 + h - a - 1 := by
  rw [sub64_less h1 ha, sub64_ge (by omega) (by omega)]
theorem dist_same (a : Nat) : sub64 (sub64 a a) 1 = 18446744073709551615 := by unfold sub64 U64; omega

theorem dist_le {h a : Nat} (_hh : h < 18446744073709551616) (ha : a < 18446744073709551616) (h1 : h ≤ a) : sub64 (sub64 h a) 1 = 18446744073709551616 + h - a - 1 := by
  rcases Nat.lt_or_eq_of_le h1 with h2 | h2
  · exact dist_upto ha h2
  · subst h2; rw [dist_same]; omega

theorem fnd_iff (pts : Array Pt) (hso : ∀ i j, i < j → j < pts.size → pts[i]!.1 ≤ pts[j]!.1) (hb : ∀ t, t < pts.size → pts[t]!.1 < 18446744073709551616) (i h : Nat) (hi : i < pts.size) (hh : h < 18446744073709551616)
    (hns : 1 < pts.size → arc pts i ≠ pts[i]!.1) : decide (sub64 (sub64 h (arc pts i)) 1 ≤ lastP pts i) = decide (fnd pts h = i) := by
  have hmono : ∀ a b, a ≤ b → b < pts.size → pts[a]!.1 ≤ pts[b]!.1 := fun a b hab hbs => by
    rcases Nat.lt_or_eq_of_le hab with h1 | h1
    · exact hso a b h1 hbs
    · rw [h1]; exact Nat.le_refl _
  obtain ⟨s1, s2⟩ := firstGe_spec pts h
  have sle := firstGe_le pts h
  rw [decide_eq_decide]
  by_cases hone : pts.size = 1
  · have hi0 : i = 0 := by omega
    subst hi0
    have harc : arc pts 0 = pts[0]!.1 := by unfold arc; rw [if_pos rfl, hone]
    have hl : lastP pts 0 = 18446744073709551615 := by unfold lastP; rw [harc, dist_same]
    have hf : fnd pts h = 0 := by
      unfold fnd
      split
      · rfl
      · omega
    rw [hl, hf]
    have := sub64_lt (sub64 h (arc pts 0)) 1
    constructor
    · intro _; rfl
    · intro _; omega
  · have hn1 : 1 < pts.size := by omega
    have hne := hns hn1
    by_cases hi0 : i = 0
    · subst hi0
      have harc : arc pts 0 = pts[pts.size - 1]!.1 := by unfold arc; rw [if_pos rfl]
      have hap : pts[0]!.1 ≤ arc pts 0 := by rw [harc]; exact hmono 0 _ (by omega) (by omega)
      have halt : arc pts 0 < 18446744073709551616 := by rw [harc]; exact hb _ (by omega)
      have hl : lastP pts 0 = 18446744073709551616 + pts[0]!.1 - arc pts 0 - 1 := by unfold lastP; exact dist_upto halt (by omega)
      have hp0 := hb 0 (by omega)
      rw [hl]
      by_cases hha : arc pts 0 < h
      · rw [dist_after hh hha]
        have hf : fnd pts h = 0 := by
          unfold fnd
          rw [if_pos]
          rcases Nat.lt_or_ge (firstGe pts h) pts.size with hlt | hge
          · have h1 := s2 hlt
            have h2 := hmono (firstGe pts h) (pts.size - 1) (by omega) (by omega)
            omega
          · omega
        rw [hf]
        constructor
        · intro _; rfl
        · intro _; omega
      · rw [dist_le hh halt (by omega)]
        have hfN : firstGe pts h ≠ pts.size := fun he => by
          have := s1 (pts.size - 1) (by omega)
          omega
        have hf : fnd pts h = firstGe pts h := by unfold fnd; rw [if_neg hfN]
        rw [hf]
        constructor
        · intro hle
          rcases Nat.eq_zero_or_pos (firstGe pts h) with h0 | h0
          · exact h0
          · have := s1 0 h0
            omega
        · intro h0
          have := s2 (by omega)
          rw [h0] at this
          omega
    · have harc : arc pts i = pts[i - 1]!.1 := by unfold arc; rw [if_neg hi0]
      have hap : arc pts i < pts[i]!.1 := by
        have : arc pts i ≤ pts[i]!.1 := by rw [harc]; exact hmono _ _ (by omega) hi
        omega
      have hpi := hb i hi
      have hl : lastP pts i = pts[i]!.1 - arc pts i - 1 := by unfold lastP; exact dist_after hpi hap
      rw [hl]
      have hfi : fnd pts h = i ↔ firstGe pts h = i := by
        unfold fnd
        split
        · rename_i he
          constructor
          · intro h0; omega
          · intro h0; omega
        · exact Iff.rfl
      rw [hfi]
      by_cases hha : arc pts i < h
      · rw [dist_after hh hha]
        constructor
        · intro hle
          have hpi' : h ≤ pts[i]!.1 := by omega
          apply firstGe_eq pts h i (by omega) (fun t ht => ?_) (fun _ => hpi')
          have := hmono t (i - 1) (by omega) (by omega)
          rw [harc] at hha
          omega
        · intro h0
          have := s2 (by omega)
          rw [h0] at this
          omega
      · rw [dist_le hh (by omega) (by omega)]
        constructor
        · intro hle; omega
        · intro h0
          have := s1 (i - 1) (by omega)
          rw [harc] at hha
          omega

theorem off_eq (pts : Array Pt) (hs : List Nat) (hso : ∀ i j, i < j → j < pts.size → pts[i]!.1 ≤ pts[j]!.1) (hb : ∀ t, t < pts.size → pts[t]!.1 < 18446744073709551616) (hh : ∀ h ∈ hs, h < 18446744073709551616) (i : Nat) (hi : i < pts.size)
    (hns : 1 < pts.size → arc pts i ≠ pts[i]!.1) : offM pts hs i = offS pts hs i := by
  unfold offM offS
  rw [List.filter_map]
  congr 2
  refine List.filter_congr fun h hm => ?_
  exact fnd_iff pts hso hb i h hi (hh h hm) hns

theorem stps_congr {skip : Nat → Bool} {off off' : Nat → List Nat} {st lst : Nat → Nat} : ∀ (n i : Nat) (s : List Nat × Bool), (∀ j, i ≤ j → j < i + n → skip j = false → off j = off' j) → stps skip off st lst n i s = stps skip off' st lst n i s
  | 0, _, _, _ => rfl
  | n + 1, i, s, h => by
    rw [stps, stps]
    have : stp skip off st lst i s = stp skip off' st lst i s := by
      unfold stp
      cases hk : skip i with
      | true => rfl
      | false => rw [h i (Nat.le_refl _) (by omega) hk]
    rw [this]
    exact stps_congr n (i + 1) _ (fun j h1 h2 => h j (by omega) (by omega))

theorem split_eq (isU : Nat → Bool) (pts : Array Pt) (hs : List Nat) (hso : ∀ i j, i < j → j < pts.size → pts[i]!.1 ≤ pts[j]!.1) (hb : ∀ t, t < pts.size → pts[t]!.1 < 18446744073709551616) (hh : ∀ h ∈ hs, h < 18446744073709551616) :
    stps (skipP isU pts) (offM pts hs) (arc pts) (lastP pts) pts.size 0 ([], false) = stps (skipP isU pts) (offS pts hs) (arc pts) (lastP pts) pts.size 0 ([], false) := by
  refine stps_congr _ _ _ fun j _ hj hk => off_eq pts hs hso hb hh j (by omega) fun h1 he => ?_
  unfold skipP at hk
  simp [h1, he] at hk

end Go.Proofs.YbulkdjggFmt
