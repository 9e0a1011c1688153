import Derived.Test.YbulkdjdoFmtE
namespace Go.Proofs.YbulkdjdoFmt
open Go.RowKit

set_option maxHeartbeats 800000 in
theorem clone_any {B : Nat} {v : Value} {ys : List Int} {w : World} (hown : Owns w B v ys) (hl : ys.length ≤ 4096) :
    Calls Ybaf.prog 7 #[v] w fun e w' => ∃ v', e = .returned v' ∧ Owns w' w.heap.size v' ys ∧ Below w.heap.size w w' := by
  obtain ⟨i0, hi, hz0, hz1, hz2⟩ := info_parts Ybaf.info2
  have q23 : ∀ (w : World) (a : Option Addr) (n c n' c' : Nat), (binOp .eql 23 (.slice a n c) (.slice none n' c')).run Ybaf.prog w = .ok (.bool a.isNone) w := fun w a n c n' c' => Lib.run_eql_slice_nil w _ _ a n c n' c' Ybaf.underlying23
  rcases hown.form with ⟨rfl, rfl⟩ | ⟨g, cap, rfl, _, hgl, hc, _⟩
  · go_enter Ybaf.func7, Ybaf.ntmps7
    go_wp2_with fail
    go_ret
    exact ⟨_, rfl, World.ownsRow_nil _ _ _ _, Below.refl _ _⟩
  · clear hown
    have hnew : (w.alloc (.cells #[] 2)).ownsRow w.heap.size 2 1 (.slice (some ⟨w.heap.size, 0, none⟩) 0 0) 0 [] := World.ownsRow_lit w #[] 0 (Nat.le_refl _) (Nat.zero_le _) rfl
    have hcs : ∀ j u, (ys.map (Value.int .i64))[j]? = some u → (w.alloc (.cells #[] 2)).cell? ((⟨g, 0, none⟩ : Addr).add j) = some u := by
      intro j u hj
      have hlt : j < ys.length := by
        have := (List.getElem?_eq_some_iff.1 hj).1
        simpa using this
      rw [Addr.add_lit, World.cell?_alloc_past _ _ _ hgl, show 0 + j = j by omega, hc j hlt]
      simpa [List.getD_eq_getElem?_getD, List.getElem?_eq_getElem hlt] using hj
    go_enter Ybaf.func7, Ybaf.ntmps7
    go_wp2_with (at_builtin; refine wpList_append_own _ rfl _ _ 23 rfl w.heap.size 2 i0 (.int .i64 0) 1 8 Ybaf.underlying23 hi hz0 hz1 hz2 rfl (by decide) _ _ _ rfl hnew ⟨g, 0, none⟩ ys.length _ (ys.map (Value.int .i64)) rfl (by simp) hcs (ints_oneCell .i64 ys) (by unfold maxLen; omega) (by omega) (by simp) ?_; intro v' w2 hown2 hg2 hnil2)
    go_ret
    exact ⟨_, rfl, by unfold Owns; simpa using hown2, ((Below.refl _ _).alloc (Nat.le_refl _) _).grown hg2 (by simp) (fun j hj => (hnew.lt j hj).1)⟩

/-- What all readers of a slice of numbers ask. -/
def Reads (w : World) (a : Option Addr) (ys : List Int) : Prop :=
  ys = [] ∨ ∃ g, a = some ⟨g, 0, none⟩ ∧ g < w.heap.size ∧ ∀ j, j < ys.length → w.cell? ⟨g, j, none⟩ = some (.int .i64 (ys.getD j 0))

theorem Owns.reads {w : World} {B : Nat} {v : Value} {ys : List Int} (h : Owns w B v ys) : ∃ a cap, v = .slice a ys.length cap ∧ Reads w a ys := by
  rcases h.form with ⟨rfl, rfl⟩ | ⟨g, cap, rfl, _, hgl, hc, _⟩
  · exact ⟨_, _, rfl, .inl rfl⟩
  · exact ⟨_, _, rfl, .inr ⟨g, rfl, hgl, hc⟩⟩

set_option maxHeartbeats 800000 in
theorem equal_any (a b : Option Addr) (n c1 c2 : Nat) (ys : List Int) (w : World) (hn : ys.length = n) (hl : n ≤ 4096) (ha : Reads w a ys) (hb : Reads w b ys) :
    Calls Ybaf.prog 10 #[.slice a n c1, .slice b n c2] w fun e w' => e = .returned (.bool true) ∧ Below w.heap.size w w' := by
  have hn' : Hid (ys.length = n) := hn
  clear hn
  have ha' : Hid (Reads w a ys) := ha
  have hb' : Hid (Reads w b ys) := hb
  clear ha hb
  go_enter Ybaf.func10, Ybaf.ntmps10
  go_wp2_with fail
  go_loopw [13] (fun i wr => ∃ k : Nat, k ≤ n ∧ i = .int .i64 k ∧ Below w.heap.size w wr) (fun i _ => n - (intOf i).toNat)
  case atStart => exact ⟨0, by omega, rfl, Below.refl _ _⟩
  case round =>
    obtain ⟨k, hk, rfl, hbel⟩ := hrel
    by_cases hlt : k < n
    · rcases ha'.out with h | ⟨g, rfl, hg, hc⟩
      · rw [h] at hn'; have := hn'.out; simp at this; omega
      · rcases hb'.out with h | ⟨g2, rfl, hg2, hc2⟩
        · rw [h] at hn'; have := hn'.out; simp at this; omega
        · have e1 : wr.cell? ⟨g, k, none⟩ = some (.int .i64 (ys.getD k 0)) := by rw [hbel.cell (p := ⟨g, k, none⟩) hg]; exact hc k (by rw [hn'.out]; exact hlt)
          have e2 : wr.cell? ⟨g2, k, none⟩ = some (.int .i64 (ys.getD k 0)) := by rw [hbel.cell (p := ⟨g2, k, none⟩) hg2]; exact hc2 k (by rw [hn'.out]; exact hlt)
          generalize ys.getD k 0 = y at e1 e2
          have hi0 : (k : Int) < (n : Int) := by omega
          clear ha' hb' hc hc2
          go_wp2_with fail
          go_quiet (fail)
          go_wp2_with fail
          go_roundw
          case rel => exact ⟨k + 1, by omega, by go_num, below_drewN hbel _⟩
          case measure => simp [intOf]; omega
    · go_wp2_with fail
      go_ret
      exact ⟨rfl, hbel⟩

end Go.Proofs.YbulkdjdoFmt
