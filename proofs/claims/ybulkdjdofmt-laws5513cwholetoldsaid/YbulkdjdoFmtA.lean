import Derived.Test.YbulkdjdoFmtRows
import Derived.Test.YbulkdjdoFmtPlain
import Derived.WalkKit
import Derived.WalkSpells
import Derived.WalkLawsBesides
import Derived.BigQuiet
namespace Go.Proofs.YbulkdjdoFmt
open Go.RowKit

theorem Ybaf.info2 : (Ybaf.prog.info? 2).map (fun i => (i.zero, i.size, i.bytes)) = some (some (.int .i64 0), 1, 8) := by kernel_rfl

/-- What a slice of the call's own holds. -/
def Owns (w : World) (base : Nat) (v : Value) (ys : List Int) : Prop := w.ownsRow base 2 1 v ys.length (ys.map (Value.int .i64))

theorem Owns.form {w : World} {base : Nat} {v : Value} {ys : List Int} (h : Owns w base v ys) :
    (v = .slice none 0 0 ∧ ys = []) ∨ ∃ g cap, v = .slice (some ⟨g, 0, none⟩) ys.length cap ∧ base ≤ g ∧ g < w.heap.size ∧
      (∀ j, j < ys.length → w.cell? ⟨g, j, none⟩ = some (.int .i64 (ys.getD j 0))) ∧ ∀ j, w.frozen? ⟨g, j, none⟩ = false := by
  have h' : w.ownsRow base 2 1 v ys.length (ys.map (Value.int .i64)) := h
  rcases h'.2 with ⟨rfl, h0⟩ | ⟨g, cap, cur, rfl, hb, hg, hnc, hcm, hcs, ht⟩
  · exact .inl ⟨rfl, List.length_eq_zero_iff.1 h0⟩
  · refine .inr ⟨g, cap, rfl, hb, (Array.getElem?_eq_some_iff.1 hg).1, fun j hj => ?_, fun j => h'.frozenAt j⟩
    rw [h'.cellAt j (by omega)]
    simp [List.getD_eq_getElem?_getD, List.getElem?_eq_getElem hj]

theorem Owns.kept {w w' : World} {base : Nat} {v : Value} {ys : List Int} (h : Owns w base v ys) (hg : Below w.heap.size w w') : Owns w' base v ys :=
  World.ownsRow.kept (row := none) h ⟨hg.os, hg.tape, hg.output, hg.size, fun k hk _ => hg.block k hk⟩ (by cases v.ownBlock <;> simp)

set_option maxHeartbeats 400000 in
theorem build_some (b off len cap : Nat) (zs : List Int) (w : World) (hlen : len ≤ 4096) (hb : b < w.heap.size)
    (hc : ∀ j, j < len → w.cell? ⟨b, off + j, none⟩ = some (.int .u8 (zs.getD j 0))) (hr : ∀ j, 0 ≤ zs.getD j 0 ∧ zs.getD j 0 ≤ 255) :
    Calls Ybaf.prog 5 #[.slice (some ⟨b, off, none⟩) len cap] w fun e w' =>
      ∃ v ys, e = .returned v ∧ AscTo ys (255 * len) ∧ ys.length = len - len % 2 ∧ Owns w' w.heap.size v ys ∧ Below w.heap.size w w' := by
  obtain ⟨i0, hi, hz0, hz1, hz2⟩ := info_parts Ybaf.info2
  go_enter Ybaf.func5, Ybaf.ntmps5
  go_wp2_with (at_make; refine wpList_make_own _ rfl _ _ 23 rfl w.heap.size 2 i0 (.int .i64 0) 1 Ybaf.underlying23 hi hz0 hz1 .i64 .i64 _ (len - len % 2) rfl rfl (by omega) (by rw [hz2]; omega) (by unfold maxLen; omega) (Nat.le_refl _) ?_; intro w1 hown1 hg1)
  have hbel1 : Below w.heap.size w w1 := (Below.refl _ _).grown hg1 (Nat.le_refl _) (by simp)
  clear hg1
  go_loopw [4, 5, 6] (fun o v i wr => ∃ (k : Nat) (ys : List Int) (s : Int), k ≤ len - len % 2 ∧ i = .int .i64 k ∧ v = .int .i64 s ∧ ys.length = k ∧ 0 ≤ s ∧ s ≤ 255 * k ∧ AscTo ys s ∧ Owns wr w.heap.size o ys ∧ Below w.heap.size w wr) (fun _ _ i _ => len - (intOf i).toNat)
  case atStart => exact ⟨0, [], 0, by omega, rfl, rfl, rfl, by omega, by omega, AscTo.nil _, hown1, hbel1⟩
  case round =>
    obtain ⟨k, ys, s, hk, rfl, rfl, hyl, hs0, hs1, hasc, hown, hbel⟩ := hrel
    clear hown1 hbel1
    by_cases hlt : k < len - len % 2
    · have hcell : wr.cell? ⟨b, off + k, none⟩ = some (.int .u8 (zs.getD k 0)) := by rw [hbel.cell (p := ⟨b, off + k, none⟩) hb]; exact hc k (by omega)
      have hrk := hr k
      generalize zs.getD k 0 = z at hcell hrk
      have hown' : wr.ownsRow w.heap.size 2 1 u4 k (ys.map (Value.int .i64)) := by have := hown; unfold Owns at this; rwa [hyl] at this
      have hsz := hbel.size
      go_wp2_with (at_builtin; refine wpList_append_own _ rfl _ _ 23 rfl w.heap.size 2 i0 (.int .i64 0) 1 8 Ybaf.underlying23 hi hz0 hz1 hz2 rfl (by decide) _ _ _ rfl (hown'.alloc _) ⟨wr.heap.size, 0, none⟩ 1 1 [.int .i64 (s + z)] rfl rfl (cell_one_new _ _ _) (ints_oneCell .i64 [s + z]) (by unfold maxLen; omega) (by omega) (by simp; omega) ?_; intro v' w2 hown2 hg2 hnil2)
      go_roundw
      case rel =>
        refine ⟨k + 1, ys ++ [s + z], s + z, by omega, by go_num, rfl, by simp [hyl], by omega, by omega, hasc.snoc (by omega) (by omega), ?_, ?_⟩
        · unfold Owns; simpa [hyl] using hown2
        · exact (hbel.alloc hbel.size _).grown hg2 (by simp; omega) (fun j hj => (hown'.lt j hj).1)
      case measure => simp [intOf]; omega
    · go_wp2
      go_ret
      exact ⟨_, ys, rfl, hasc.mono (by omega), by omega, hown, hbel⟩

set_option maxHeartbeats 400000 in
/-- A slice of length 0, a nil one too. -/
theorem build_zero (a : Option Addr) (cap : Nat) (w : World) :
    Calls Ybaf.prog 5 #[.slice a 0 cap] w fun e w' =>
      ∃ v ys, e = .returned v ∧ AscTo ys 0 ∧ ys.length = 0 ∧ Owns w' w.heap.size v ys ∧ Below w.heap.size w w' := by
  obtain ⟨i0, hi, hz0, hz1, hz2⟩ := info_parts Ybaf.info2
  go_enter Ybaf.func5, Ybaf.ntmps5
  go_wp2_with (at_make; refine wpList_make_own _ rfl _ _ 23 rfl w.heap.size 2 i0 (.int .i64 0) 1 Ybaf.underlying23 hi hz0 hz1 .i64 .i64 _ 0 rfl rfl (by omega) (by rw [hz2]; omega) (by unfold maxLen; omega) (Nat.le_refl _) ?_; intro w1 hown1 hg1)
  refine wp_loop_rounds 1 ?_
  rw [rounds_succ]
  go_wp2
  go_ret
  exact ⟨_, [], rfl, AscTo.nil _, rfl, hown1, (Below.refl _ _).grown hg1 (Nat.le_refl _) (by simp)⟩

/-- A slice of bytes that came in. -/
def Arg8 (w : World) (v : Value) (len : Nat) : Prop :=
  ∃ a cap, v = .slice a len cap ∧ (len = 0 ∨ ∃ b off, ∃ zs : List Int, a = some ⟨b, off, none⟩ ∧ b < w.heap.size ∧
    (∀ j, j < len → w.cell? ⟨b, off + j, none⟩ = some (.int .u8 (zs.getD j 0))) ∧ ∀ j, 0 ≤ zs.getD j 0 ∧ zs.getD j 0 ≤ 255)

theorem Arg8.kept {w w' : World} {v : Value} {len : Nat} (h : Arg8 w v len) (hg : Below w.heap.size w w') : Arg8 w' v len := by
  obtain ⟨a, cap, rfl, h⟩ := h
  refine ⟨a, cap, rfl, ?_⟩
  rcases h with h | ⟨b, off, zs, rfl, hb, hc, hr⟩
  · exact .inl h
  · exact .inr ⟨b, off, zs, rfl, Nat.lt_of_lt_of_le hb hg.size, fun j hj => by rw [hg.cell (p := ⟨b, off + j, none⟩) hb]; exact hc j hj, hr⟩

theorem build_any {v : Value} {len : Nat} {w : World} (h : Arg8 w v len) (hlen : len ≤ 4096) :
    Calls Ybaf.prog 5 #[v] w fun e w' =>
      ∃ v ys, e = .returned v ∧ AscTo ys 1044480 ∧ ys.length ≤ 4096 ∧ ys.length % 2 = 0 ∧ Owns w' w.heap.size v ys ∧ Below w.heap.size w w' := by
  obtain ⟨a, cap, rfl, h⟩ := h
  rcases h with rfl | ⟨b, off, zs, rfl, hb, hc, hr⟩
  · refine (build_zero a cap w).mono ?_
    rintro e w' ⟨v, ys, rfl, h1, h2, h3, h4⟩
    exact ⟨v, ys, rfl, h1.mono (by omega), by omega, by omega, h3, h4⟩
  · refine (build_some b off len cap zs w hlen hb hc hr).mono ?_
    rintro e w' ⟨v, ys, rfl, h1, h2, h3, h4⟩
    exact ⟨v, ys, rfl, h1.mono (by omega), by omega, by omega, h3, h4⟩

end Go.Proofs.YbulkdjdoFmt
