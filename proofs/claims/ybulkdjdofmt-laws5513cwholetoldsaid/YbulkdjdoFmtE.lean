import Derived.Test.YbulkdjdoFmtD
namespace Go.Proofs.YbulkdjdoFmt
open Go.RowKit

set_option maxHeartbeats 1600000 in
set_option maxRecDepth 100000 in
/-- No control bytes: every range is kept as it is. -/
theorem derive_noctl (g cap n : Nat) (xs : List Int) (s : Int) (ad : Option Addr) (cap2 : Nat) (w : World) (hn : xs.length = n) (hl : n ≤ 4096) (hgl : g < w.heap.size)
    (hc : ∀ j, j < n → w.cell? ⟨g, j, none⟩ = some (.int .i64 (xs.getD j 0))) (hgood : GoodTo xs s) (hs : s ≤ 1100000) (hs0 : 0 ≤ s) :
    Calls Ybaf.prog 6 #[.slice (some ⟨g, 0, none⟩) n cap, .slice ad 0 cap2] w fun e w' =>
      ∃ v ys, e = .returned v ∧ AscTo ys (s + 1) ∧ ys.length ≤ n ∧ ys.length % 2 = 0 ∧ Owns w' w.heap.size v ys ∧ Below w.heap.size w w' := by
  obtain ⟨i0, hi, hz0, hz1, hz2⟩ := info_parts Ybaf.info2
  have hn' : Hid (xs.length = n) := hn
  clear hn
  have hev := hgood.even
  rw [hn'.out] at hev
  go_enter Ybaf.func6, Ybaf.ntmps6
  go_wp2_with (at_make; refine wpList_make_own _ rfl _ _ 23 rfl w.heap.size 2 i0 (.int .i64 0) 1 Ybaf.underlying23 hi hz0 hz1 .i64 .i64 _ n rfl rfl rfl (by rw [hz2]; omega) (by unfold maxLen; omega) (Nat.le_refl _) ?_; intro w1 hown1 hg1)
  have hbel1 : Below w.heap.size w w1 := (Below.refl _ _).grown hg1 (Nat.le_refl _) (by simp)
  clear hg1
  go_loopw [5, 6, 7] (fun o r i wr => ∃ (k q : Nat) (ys : List Int) (t : Int), k ≤ n ∧ k % 2 = 0 ∧ i = .int .i64 k ∧ q ≤ k ∧ r = .int .i64 q ∧ ys.length ≤ k ∧ ys.length % 2 = 0 ∧ AscTo ys t ∧ 0 ≤ t ∧ t ≤ s + 1 ∧ (k < n → t ≤ xs.getD k 0) ∧ Owns wr w.heap.size o ys ∧ Below w.heap.size w wr) (fun _ _ i _ => n - (intOf i).toNat)
  case atStart => exact ⟨0, 0, [], 0, by omega, rfl, rfl, by omega, rfl, by simp, by simp, AscTo.nil _, by omega, by omega, fun h => (hgood.mem 0 (by rw [hn'.out]; omega)).1, hown1, hbel1⟩
  case round =>
    obtain ⟨k, q, ys, t, hk, hk2, rfl, hqk, rfl, hyl, hye, hasc, ht0, hts, htn, hown, hbel⟩ := hrel
    clear hown1 hbel1
    by_cases hlt : k < n
    · have hca : wr.cell? ⟨g, k, none⟩ = some (.int .i64 (xs.getD k 0)) := by rw [hbel.cell (p := ⟨g, k, none⟩) hgl]; exact hc k hlt
      have hcb : wr.cell? ⟨g, k + 1, none⟩ = some (.int .i64 (xs.getD (k + 1) 0)) := by rw [hbel.cell (p := ⟨g, k + 1, none⟩) hgl]; exact hc _ (by omega)
      have hrg := hgood.range (k / 2) (by rw [hn'.out]; omega)
      rw [show 2 * (k / 2) = k by omega] at hrg
      have hgp : k + 2 < n → xs.getD (k + 1) 0 + 1 < xs.getD (k + 2) 0 := fun h => by
        have := hgood.gap (k / 2) (by rw [hn'.out]; omega)
        rwa [show 2 * (k / 2) = k by omega] at this
      have htk := htn hlt
      clear htn
      have HGP : Hid (k + 2 < n → xs.getD (k + 1) 0 + 1 < xs.getD (k + 2) 0) := hgp
      clear hgp
      generalize xs.getD k 0 = f at hca hrg htk
      generalize xs.getD (k + 1) 0 = l at hcb hrg HGP
      have hi1 : (k : Int) + 1 < (n : Int) := by omega
      have hi0 : (k : Int) < (n : Int) := by omega
      have hi4 : IntKind.i64.wrap ((k : Int) + 1) = (k : Int) + 1 := wrap_small _ (by omega) (by omega)
      have hb1 : (bits BinOp.and IntKind.u8 1 1 == 0) = false := by decide
      have hb2 : bits BinOp.and IntKind.u8 0 3 = 0 := by decide
      have hb3 : (bits BinOp.and IntKind.u8 1 32 != 0) = false := by decide
      have hb4 : (bits BinOp.and IntKind.u8 1 64 != 0) = false := by decide
      go_wp2_with fail
      go_quiet (fail)
      have hown' : (wr.drewN nq).ownsRow w.heap.size 2 1 u5 ys.length (ys.map (Value.int .i64)) := hown
      have hbel' : Below w.heap.size w (wr.drewN nq) := below_drewN hbel _
      clear hown hbel hca hcb
      generalize hwd : wr.drewN nq = wd at hown' hbel' ⊢
      clear hwd
      have hsz := hbel'.size
      have hyl' : ys.length ≤ 4096 := by omega
      go_wp2_with (at_builtin; refine wpList_append_own _ rfl _ _ 23 rfl w.heap.size 2 i0 (.int .i64 0) 1 8 Ybaf.underlying23 hi hz0 hz1 hz2 rfl (by decide) _ _ _ rfl (hown'.alloc _) ⟨wd.heap.size, 0, none⟩ 2 2 [_, _] rfl rfl (cell_two_new _ _ _ _) (by intro u hu; simp at hu; rcases hu with rfl | rfl <;> rfl) (by unfold maxLen; omega) (by omega) (by simp; omega) ?_; intro v' w2 hown2 hg2 hnil2)
      go_roundw
      case rel =>
        have ho := derive_own hown2
        refine ⟨k + 2, q + 1, _, l, by omega, by omega, by go_num, by omega, by go_num, ?_, ?_, ?_, by omega, by omega, fun hlt2 => (by have := HGP.out hlt2; omega), ho, (hbel'.alloc hbel'.size _).grown hg2 (by simp; omega) (fun j hj => (hown'.lt j hj).1)⟩
        · simp; omega
        · simp; omega
        · exact hasc.snoc2 (by omega) (by omega) (by omega)
      case measure => simp [intOf]; omega
    · go_wp2_with fail
      go_ret
      exact ⟨_, ys, rfl, hasc.mono (by omega), by omega, hye, hown, hbel⟩

set_option maxHeartbeats 1600000 in
set_option maxRecDepth 100000 in
/-- Of no ranges: none. -/
theorem derive_zero (ad : Option Addr) (len cap2 : Nat) (w : World) :
    Calls Ybaf.prog 6 #[.slice none 0 0, .slice ad len cap2] w fun e w' =>
      ∃ v ys, e = .returned v ∧ AscTo ys 0 ∧ ys.length ≤ 0 ∧ ys.length % 2 = 0 ∧ Owns w' w.heap.size v ys ∧ Below w.heap.size w w' := by
  obtain ⟨i0, hi, hz0, hz1, hz2⟩ := info_parts Ybaf.info2
  go_enter Ybaf.func6, Ybaf.ntmps6
  go_wp2_with (at_make; refine wpList_make_own _ rfl _ _ 23 rfl w.heap.size 2 i0 (.int .i64 0) 1 Ybaf.underlying23 hi hz0 hz1 .i64 .i64 _ 0 rfl rfl rfl (by rw [hz2]; omega) (by unfold maxLen; omega) (Nat.le_refl _) ?_; intro w1 hown1 hg1)
  refine wp_loop_rounds 1 ?_
  rw [rounds_succ]
  go_wp2_with fail
  go_ret
  exact ⟨_, [], rfl, AscTo.nil _, by simp, by simp, hown1, (Below.refl _ _).grown hg1 (Nat.le_refl _) (by simp)⟩

theorem derive_any {B : Nat} {v v2 : Value} {xs : List Int} {s : Int} {len : Nat} {w : World} (hown : Owns w B v xs) (hl : xs.length ≤ 4096) (hgood : GoodTo xs s) (hs : s ≤ 1100000) (hs0 : 0 ≤ s) (hctl : Arg8 w v2 len) (hlen : len ≤ 4096) :
    Calls Ybaf.prog 6 #[v, v2] w fun e w' =>
      ∃ v ys, e = .returned v ∧ AscTo ys (s + 1) ∧ ys.length ≤ xs.length ∧ ys.length % 2 = 0 ∧ Owns w' w.heap.size v ys ∧ Below w.heap.size w w' := by
  obtain ⟨a, cap, rfl, h⟩ := hctl
  rcases hown.form with ⟨rfl, rfl⟩ | ⟨g, cap, rfl, _, hgl, hc, _⟩
  · refine (derive_zero a len cap w).mono ?_
    rintro e w' ⟨v, ys, rfl, h1, h2, h3, h4⟩
    exact ⟨v, ys, rfl, h1.mono (by omega), h2, h3, h4⟩
  · by_cases h0 : len = 0
    · subst h0
      exact derive_noctl g _ xs.length xs s a _ w rfl hl hgl hc hgood hs hs0
    · rcases h with h | ⟨b, off, zs, rfl, hb, hd, hr⟩
      · exact absurd h h0
      · exact derive_some g _ xs.length xs s b off len _ zs w rfl hl hgl hc hgood hs hs0 hlen (by omega) hb hd hr

end Go.Proofs.YbulkdjdoFmt
