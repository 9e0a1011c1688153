import Derived.Test.YbulkdjdoFmtC
import Derived.Deep.DeepCutAuto
namespace Go.Proofs.YbulkdjdoFmt
open Go.RowKit

theorem and3 (a : Int) : 0 ≤ bits BinOp.and IntKind.u8 a 3 ∧ bits BinOp.and IntKind.u8 a 3 ≤ 3 := by
  have h : ∀ x : BitVec 8, 0 ≤ IntKind.u8.wrap ((x &&& 3#8).toNat : Int) ∧ IntKind.u8.wrap ((x &&& 3#8).toNat : Int) ≤ 3 := by decide
  exact h (BitVec.ofInt 8 a)

theorem derive_own {w : World} {B : Nat} {v : Value} {ys : List Int} {a b : Int} (h : w.ownsRow B 2 1 v (ys.length + 2) (ys.map (Value.int .i64) ++ [.int .i64 a, .int .i64 b])) : Owns w B v (ys ++ [a, b]) := by
  unfold Owns
  simpa using h

set_option maxHeartbeats 1600000 in
set_option maxRecDepth 100000 in
theorem derive_some (g cap n : Nat) (xs : List Int) (s : Int) (b off len cap2 : Nat) (zs : List Int) (w : World) (hn : xs.length = n) (hl : n ≤ 4096) (hgl : g < w.heap.size)
    (hc : ∀ j, j < n → w.cell? ⟨g, j, none⟩ = some (.int .i64 (xs.getD j 0))) (hgood : GoodTo xs s) (hs : s ≤ 1100000) (hs0 : 0 ≤ s)
    (hlen : len ≤ 4096) (hlen0 : 0 < len) (hb : b < w.heap.size)
    (hd : ∀ j, j < len → w.cell? ⟨b, off + j, none⟩ = some (.int .u8 (zs.getD j 0))) (hr : ∀ j, 0 ≤ zs.getD j 0 ∧ zs.getD j 0 ≤ 255) :
    Calls Ybaf.prog 6 #[.slice (some ⟨g, 0, none⟩) n cap, .slice (some ⟨b, off, none⟩) len cap2] w fun e w' =>
      ∃ v ys, e = .returned v ∧ AscTo ys (s + 1) ∧ ys.length ≤ n ∧ ys.length % 2 = 0 ∧ Owns w' w.heap.size v ys ∧ Below w.heap.size w w' := by
  obtain ⟨i0, hi, hz0, hz1, hz2⟩ := info_parts Ybaf.info2
  have hn' : Hid (xs.length = n) := hn
  clear hn
  have hev := hgood.even
  rw [hn'.out] at hev
  go_enter Ybaf.func6, Ybaf.ntmps6
  go_wp2_with (at_make; refine wpList_make_own _ rfl _ _ 23 rfl w.heap.size 2 i0 (.int .i64 0) 1 Ybaf.underlying23 hi hz0 hz1 .i64 .i64 _ n rfl rfl rfl (by rw [hz2]; omega) (by unfold maxLen; omega) (Nat.le_refl _) ?_; intro w1 hown1 hg1)
  have hbel1 : Below w.heap.size w w1 := (Below.refl _ _).grown hg1 (Nat.le_refl _) (by simp)
  clear hg1
  go_loopw [5, 6, 7] (fun o r i wr => ∃ (k q : Nat) (ys : List Int) (t : Int), k ≤ n ∧ k % 2 = 0 ∧ i = .int .i64 k ∧ q ≤ k ∧ r = .int .i64 q ∧ ys.length ≤ k ∧ ys.length % 2 = 0 ∧ AscTo ys t ∧ 0 ≤ t ∧ t ≤ s + 1 ∧ (k < n → t = 0 ∨ t ≤ xs.getD k 0 - 1) ∧ Owns wr w.heap.size o ys ∧ Below w.heap.size w wr) (fun _ _ i _ => n - (intOf i).toNat)
  case atStart => exact ⟨0, 0, [], 0, by omega, rfl, rfl, by omega, rfl, by simp, by simp, AscTo.nil _, by omega, by omega, fun _ => .inl rfl, hown1, hbel1⟩
  case round =>
    obtain ⟨k, q, ys, t, hk, hk2, rfl, hqk, rfl, hyl, hye, hasc, ht0, hts, htn, hown, hbel⟩ := hrel
    clear hown1 hbel1
    by_cases hlt : k < n
    · have hca : wr.cell? ⟨g, k, none⟩ = some (.int .i64 (xs.getD k 0)) := by rw [hbel.cell (p := ⟨g, k, none⟩) hgl]; exact hc k hlt
      have hcb : wr.cell? ⟨g, k + 1, none⟩ = some (.int .i64 (xs.getD (k + 1) 0)) := by rw [hbel.cell (p := ⟨g, k + 1, none⟩) hgl]; exact hc _ (by omega)
      have hrg := hgood.range (k / 2) (by rw [hn'.out]; omega)
      rw [show 2 * (k / 2) = k by omega] at hrg
      have hgp : k + 2 < n → xs.getD (k + 1) 0 + 1 < xs.getD (k + 2) 0 := fun h => by
        have := hgood.gap (k / 2) (by rw [hn'.out]; omega)
        rwa [show 2 * (k / 2) = k by omega] at this
      have hcd : wr.cell? ⟨b, off + q % len, none⟩ = some (.int .u8 (zs.getD (q % len) 0)) := by
        rw [hbel.cell (p := ⟨b, off + q % len, none⟩) hb]; exact hd _ (Nat.mod_lt _ hlen0)
      have hrc := hr (q % len)
      have htk := htn hlt
      clear htn
      have HGP : Hid (k + 2 < n → xs.getD (k + 1) 0 + 1 < xs.getD (k + 2) 0) := hgp
      clear hgp
      generalize xs.getD k 0 = f at hca hrg htk
      generalize xs.getD (k + 1) 0 = l at hcb hrg HGP
      generalize zs.getD (q % len) 0 = c at hcd hrc
      have hi1 : (k : Int) + 1 < (n : Int) := by omega
      have hqm : 0 ≤ (q : Int) % (len : Int) ∧ (q : Int) % (len : Int) < (len : Int) := ⟨Int.emod_nonneg _ (by omega), Int.emod_lt_of_pos _ (by omega)⟩
      have hi0 : (k : Int) < (n : Int) := by omega
      have hi4 : IntKind.i64.wrap ((k : Int) + 1) = (k : Int) + 1 := wrap_small _ (by omega) (by omega)
      cases hb1 : (bits BinOp.and IntKind.u8 c 1 == 0)
      · go_wp2_with fail
        go_quiet (fail)
        have hx := and3 (c / 2)
        have hy := and3 (c / 8)
        have hown2 : Owns wr w.heap.size u5 ys ∧ Below w.heap.size w wr := ⟨hown, hbel⟩
        clear hca hcb hcd hown hbel
        go_upto_if 55 with (fail)
        go_cut [11] (fun lo wx => ∃ a, lo = .int .i64 a ∧ f ≤ a ∧ a ≤ l ∧ Owns wx w.heap.size u5 ys ∧ Below w.heap.size w wx)
        case first =>
          go_wp2_with fail
          all_goals go_meet
          all_goals (case rel => exact ⟨_, rfl, by omega, by omega, hown2.1, below_drewN hown2.2 _⟩)
        case rest =>
          clear hown2
          obtain ⟨a, rfl, ha1, ha2, hown2⟩ := hcut
          go_upto_if 65 with (fail)
          go_cut [12] (fun hi wx => ∃ h, hi = .int .i64 h ∧ a ≤ h ∧ h ≤ l ∧ Owns wx w.heap.size u5 ys ∧ Below w.heap.size w wx)
          case first =>
            go_wp2_with fail
            all_goals go_meet
            all_goals (case rel => exact ⟨_, rfl, by omega, by omega, hown2.1, hown2.2⟩)
          case rest =>
            clear hown2
            obtain ⟨h, rfl, hh1, hh2, hown2⟩ := hcut
            go_upto_if 69 with (fail)
            go_cut [12] (fun hi wx => ∃ h', hi = .int .i64 h' ∧ a ≤ h' ∧ h' ≤ l + 1 ∧ Owns wx w.heap.size u5 ys ∧ Below w.heap.size w wx)
            case first =>
              go_wp2_with fail
              all_goals go_meet
              all_goals (case rel => exact ⟨_, rfl, by omega, by omega, hown2.1, hown2.2⟩)
            case rest =>
              clear hown2
              obtain ⟨h', rfl, hp1, hp2, hown2⟩ := hcut
              have hown : wc.ownsRow w.heap.size 2 1 u5 ys.length (ys.map (Value.int .i64)) := hown2.1
              have hbel := hown2.2
              have hsz := hbel.size
              have hyl' : ys.length ≤ 4096 := by omega
              clear hown2
              cases hb2 : (bits BinOp.and IntKind.u8 c 64 != 0)
              all_goals
                go_wp2_with (at_builtin; refine wpList_append_own _ rfl _ _ 23 rfl w.heap.size 2 i0 (.int .i64 0) 1 8 Ybaf.underlying23 hi hz0 hz1 hz2 rfl (by decide) _ _ _ rfl (hown.alloc _) ⟨wc.heap.size, 0, none⟩ 2 2 [_, _] rfl rfl (cell_two_new _ _ _ _) (by intro u hu; simp at hu; rcases hu with rfl | rfl <;> rfl) (by unfold maxLen; omega) (by omega) (by simp; omega) ?_; intro v' w2 hown2 hg2 hnil2)
              all_goals
                go_roundw
                case rel =>
                  have ho := derive_own hown2
                  refine ⟨k + 2, q + 1, _, h', by omega, by omega, by go_num, by omega, by go_num, ?_, ?_, ?_, by omega, by omega, fun hlt2 => .inr (by have := HGP.out hlt2; omega), ho, (hbel.alloc hbel.size _).grown hg2 (by simp; omega) (fun j hj => (hown.lt j hj).1)⟩
                  · simp; omega
                  · simp; omega
                  · exact hasc.snoc2 (by omega) (by omega) (by omega)
                case measure => simp [intOf]; omega
      · go_wp2_with fail
        go_roundw
        case rel =>
          exact ⟨k + 2, q + 1, ys, t, by omega, by omega, by go_num, by omega, by go_num, by omega, by omega, hasc, ht0, hts, fun hlt2 => by have := HGP.out hlt2; omega, hown, hbel⟩
        case measure => simp [intOf]; omega
    · go_wp2_with fail
      go_ret
      exact ⟨_, ys, rfl, hasc.mono (by omega), by omega, hye, hown, hbel⟩

end Go.Proofs.YbulkdjdoFmt
