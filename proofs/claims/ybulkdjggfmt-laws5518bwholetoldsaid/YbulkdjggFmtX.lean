/-
  What 'make' lays; zzs5518bsameU (8); rows of points; (*Ring).appendPoints (10).
-/
import Derived.Test.YbulkdjggFmtR
import Derived.Test.YbulkdjggFmtP
import Derived.Test.YbulkdjggFmtShelf
import Derived.Deep.AppendLies
import Derived.Deep.LoopGhost
import Derived.BigQuiet
namespace Go.Proofs.YbulkdjggFmt
open Go.RowKit Go.Sort

theorem Ybaf.info25 : (Ybaf.prog.info? 25).map (fun i => (i.zero, i.size, i.bytes)) = some (some (.slice none 0 0), 1, 24) := by kernel_rfl
theorem Ybaf.info9 : (Ybaf.prog.info? 9).map (fun i => (i.zero, i.size, i.bytes)) = some (some (.string ⟨#[]⟩), 1, 16) := by kernel_rfl
theorem Ybaf.info41 : (Ybaf.prog.info? 41).map (fun i => (i.zero, i.size, i.bytes)) = some (some (.agg #[.int .u64 0, .int .i64 0]), 2, 16) := by kernel_rfl

theorem make22 (n : Nat) (hn : n ≤ 100000) : ∃ Z : Array Value, Z.size = n ∧ (∀ i, i < n → Z[i]? = some (.slice none 0 0)) ∧ ∀ W : World, (Instr.makeSlice 22 (.int .i64 n) (.int .i64 n)).run Ybaf.prog W = .ok (.slice (some ⟨W.heap.size, 0, none⟩) n n) (W.alloc (.cells Z 25)) := by
  obtain ⟨i, h1, h2, h3, h4⟩ := info_parts Ybaf.info25
  refine ⟨madeCells #[.slice none 0 0] n, size_madeCells _ _, fun j hj => ?_, fun W => ?_⟩
  · rw [Array.getElem?_eq_getElem (by rw [size_madeCells]; exact hj)]
    simp [madeCells, Nat.mod_one]
  · have := run_makeSlice (P := Ybaf.prog) W 22 25 i _ Ybaf.underlying22 h1 h2 .i64 .i64 n n (by omega) (by omega) (by rw [h3]; omega) (by rw [h4]; omega) (by omega)
    rw [h3] at this
    simpa [Value.cells] using this
theorem make23 (n : Nat) (hn : n ≤ 100000) : ∃ Z : Array Value, Z.size = n ∧ (∀ i, i < n → Z[i]? = some (.string ⟨#[]⟩)) ∧ ∀ W : World, (Instr.makeSlice 23 (.int .i64 n) (.int .i64 n)).run Ybaf.prog W = .ok (.slice (some ⟨W.heap.size, 0, none⟩) n n) (W.alloc (.cells Z 9)) := by
  obtain ⟨i, h1, h2, h3, h4⟩ := info_parts Ybaf.info9
  refine ⟨madeCells #[.string ⟨#[]⟩] n, size_madeCells _ _, fun j hj => ?_, fun W => ?_⟩
  · rw [Array.getElem?_eq_getElem (by rw [size_madeCells]; exact hj)]
    simp [madeCells, Nat.mod_one]
  · have := run_makeSlice (P := Ybaf.prog) W 23 9 i _ Ybaf.underlying23 h1 h2 .i64 .i64 n n (by omega) (by omega) (by rw [h3]; omega) (by rw [h4]; omega) (by omega)
    rw [h3] at this
    simpa [Value.cells] using this
theorem make25 (n : Nat) (hn : n ≤ 100000) : ∃ Z : Array Value, Z.size = n ∧ (∀ i, i < n → Z[i]? = some (.int .u64 0)) ∧ ∀ W : World, (Instr.makeSlice 25 (.int .i64 n) (.int .i64 n)).run Ybaf.prog W = .ok (.slice (some ⟨W.heap.size, 0, none⟩) n n) (W.alloc (.cells Z 28)) := by
  obtain ⟨i, h1, h2, h3, h4⟩ := info_parts Ybaf.info28
  refine ⟨madeCells #[.int .u64 0] n, size_madeCells _ _, fun j hj => ?_, fun W => ?_⟩
  · rw [Array.getElem?_eq_getElem (by rw [size_madeCells]; exact hj)]
    simp [madeCells, Nat.mod_one]
  · have := run_makeSlice (P := Ybaf.prog) W 25 28 i _ Ybaf.underlying25 h1 h2 .i64 .i64 n n (by omega) (by omega) (by rw [h3]; omega) (by rw [h4]; omega) (by omega)
    rw [h3] at this
    simpa [Value.cells] using this
theorem make34 (n m : Nat) (hn : m ≤ 100000) (hnm : n ≤ m) : ∃ Z : Array Value, Z.size = m * 2 ∧ ∀ W : World, (Instr.makeSlice 34 (.int .i64 n) (.int .i64 m)).run Ybaf.prog W = .ok (.slice (some ⟨W.heap.size, 0, none⟩) n m) (W.alloc (.cells Z 41)) := by
  obtain ⟨i, h1, h2, h3, h4⟩ := info_parts Ybaf.info41
  refine ⟨madeCells #[.int .u64 0, .int .i64 0] (m * 2), size_madeCells _ _, fun W => ?_⟩
  have := run_makeSlice (P := Ybaf.prog) W 34 41 i _ Ybaf.underlying34 h1 h2 .i64 .i64 n m (by omega) (by omega) (by rw [h3]; omega) (by rw [h4]; omega) (by omega)
  rw [h3] at this
  simpa [Value.cells] using this

theorem eqN (W : World) : (binOp .eql 25 (.slice none 0 0) (.slice none 0 0)).run Ybaf.prog W = .ok (.bool true) W := by kernel_rfl
theorem eqS (W : World) (g n c : Nat) : (binOp .eql 25 (.slice (some ⟨g, 0, none⟩) n c) (.slice none 0 0)).run Ybaf.prog W = .ok (.bool false) W := by kernel_rfl
theorem neN (W : World) : (binOp .neq 25 (.slice none 0 0) (.slice none 0 0)).run Ybaf.prog W = .ok (.bool false) W := by kernel_rfl
theorem neS (W : World) (g n c : Nat) : (binOp .neq 25 (.slice (some ⟨g, 0, none⟩) n c) (.slice none 0 0)).run Ybaf.prog W = .ok (.bool true) W := by kernel_rfl

/-- A []uint64 as it is read: nil, or its cells. -/
def Rd (W : World) (v : Value) (xs : List Nat) : Prop := (v = .slice none 0 0 ∧ xs = []) ∨ ∃ g cap, v = .slice (some ⟨g, 0, none⟩) xs.length cap ∧ 0 < xs.length ∧ ∀ j, j < xs.length → W.cell? ⟨g, j, none⟩ = some (.int .u64 (xs.getD j 0))

set_option maxHeartbeats 1000000 in
set_option maxRecDepth 100000 in
/-- Two slices of the same: both nil, or both not nil with the same cells. -/
theorem same_at (v1 v2 : Value) (xs : List Nat) (W : World) (h1 : Rd W v1 xs) (h2 : Rd W v2 xs) (hl : xs.length ≤ 100000) :
    Calls Ybaf.prog 8 #[v1, v2] W fun e w' => e = .returned (.bool true) ∧ ∃ q, w' = W.drewN q := by
  rcases h1 with ⟨rfl, rfl⟩ | ⟨g1, c1, rfl, h0, hc1⟩
  · rcases h2 with ⟨rfl, _⟩ | ⟨_, _, _, h0, _⟩
    · have q1 := eqN W
      go_enter Ybaf.func8, Ybaf.ntmps8
      go_wp2_with fail
      go_loopg [5] 0 (fun kx v5 wr => v5 = .int .i64 0 ∧ wr = W)
      case atStart => exact ⟨rfl, rfl⟩
      case round =>
        obtain ⟨rfl, rfl⟩ := hrel
        go_wp2_with fail
        go_ret
        exact ⟨rfl, 0, rfl⟩
    · simp at h0
  · rcases h2 with ⟨_, rfl⟩ | ⟨g2, c2, rfl, _, hc2⟩
    · simp at h0
    · obtain ⟨n, hn⟩ : ∃ n, n = xs.length := ⟨_, rfl⟩
      rw [← hn] at h0 hl ⊢
      have HC := hide (And.intro hc1 hc2)
      have HN := hide hn
      clear hc1 hc2 hn
      have q1 := eqS W g1 n c1
      have q2 := eqS W g2 n c2
      go_enter Ybaf.func8, Ybaf.ntmps8
      go_wp2_with fail
      go_loopg [5] n (fun kx v5 wr => ∃ i q : Nat, v5 = .int .i64 i ∧ i ≤ n ∧ n - i ≤ kx ∧ wr = W.drewN q)
      case atStart => exact ⟨0, 0, rfl, Nat.zero_le _, Nat.le_refl _, rfl⟩
      case round =>
        obtain ⟨i, q, rfl, hin, hik, rfl⟩ := hrel
        by_cases hlt : i < n
        · have hlti : (i : Int) < n := by omega
          have k1 : (W.drewN q).cell? ⟨g1, i, none⟩ = _ := HC.out.1 i (by rw [← HN.out]; exact hlt)
          have k2 : (W.drewN q).cell? ⟨g2, i, none⟩ = _ := HC.out.2 i (by rw [← HN.out]; exact hlt)
          generalize xs.getD i 0 = y at k1 k2
          obtain ⟨W1, hW1⟩ : ∃ W1, W1 = W.drewN q := ⟨_, rfl⟩
          rw [← hW1] at k1 k2 ⊢
          have HW := hide hW1
          clear hW1
          go_upto_region 6 with (fail)
          go_quiet (fail)
          go_wp2_with fail
          go_roundg (n - (i + 1))
          case measure => omega
          case rel => exact ⟨i + 1, _, by go_num, by omega, Nat.le_refl _, by rw [HW.out, World.drewN_drewN]⟩
        · have hlti : ¬ (i : Int) < n := by omega
          go_wp2_with fail
          go_ret
          exact ⟨rfl, q, rfl⟩


def ptsL (ps : List Pt) : List Value := ps.flatMap enc
/-- What a []point of the call's own holds. -/
def OwnP (w : World) (B : Nat) (v : Value) (ps : List Pt) : Prop := w.ownsRow B 41 2 v ps.length (ptsL ps)

theorem OwnP.snoc {w : World} {B : Nat} {v : Value} {ps : List Pt} {a b : Nat} (h : w.ownsRow B 41 2 v (ps.length + 1) (ptsL ps ++ [.int .u64 a, .int .i64 b])) : OwnP w B v (ps ++ [(a, b)]) := by
  unfold OwnP
  simpa [ptsL, enc] using h

theorem nm_size (i : Nat) : (nm i).size = 1 := by
  unfold nm
  split <;> rfl

theorem dig_len (j : Nat) (hj : j < 8) : (⟨(Lib.decDigits j).toArray⟩ : ByteArray).size ≤ 20 := by
  show (Lib.decDigits j).toArray.size ≤ 20
  rw [List.size_toArray, Lib.decDigits_length, Lib.nDigits_small (by omega)]
  omega

set_option maxHeartbeats 2000000 in
set_option maxRecDepth 100000 in
theorem append_at (R nb n cn ob co ni pn B : Nat) (v ov : Value) (ps : List Pt) (xs : List Nat) (w : World)
    (c0 : w.cell? ⟨R, 0, none⟩ = some (.slice (some ⟨nb, 0, none⟩) n cn)) (c1 : w.cell? ⟨R, 1, none⟩ = some (.int .i64 pn)) (c2 : w.cell? ⟨R, 2, none⟩ = some (.slice (some ⟨ob, 0, none⟩) n co))
    (hnm : w.cell? ⟨nb, ni, none⟩ = some (.string (nm ni))) (hov : w.cell? ⟨ob, ni, none⟩ = some ov) (hrd : Rd w ov xs) (hni : ni < n) (hp1 : 1 ≤ pn) (hp8 : pn ≤ 8) (hx : ∀ j, xs.getD j 0 < 18446744073709551616) (hxl : xs.length ≤ 4096) (hpl : ps.length ≤ 20000)
    (hP : OwnP w B v ps) (hB : B ≤ w.heap.size) (hR : R < B) (hg : ∀ g, ov.ownBlock = some g → g < B) :
    Calls Ybaf.prog 10 #[.pointer (some ⟨R, 0, none⟩), v, .int .i64 ni] w fun e w' => ∃ v' qs, e = .returned v' ∧ OwnP w' B v' (ps ++ qs) ∧ 0 < qs.length ∧ qs.length ≤ xs.length + 8 ∧ (∀ p ∈ qs, p.2 = ni ∧ p.1 < 18446744073709551616) ∧ Ot (fun k => B ≤ k) w w' := by
  obtain ⟨i0, hi, hz0, hz1, hz2⟩ := info_parts Ybaf.info41
  have hnii : (ni : Int) < n := by omega
  rcases hrd with ⟨rfl, rfl⟩ | ⟨g, cap, rfl, hl0, hcx⟩
  · have q1 := neN w
    go_enter Ybaf.func10, Ybaf.ntmps10
    go_wp2_with fail
    go_loopg [1, 11] pn (fun kx v1 v11 wr => ∃ (j : Nat) (qs : List Pt), v11 = .int .i64 j ∧ j ≤ pn ∧ pn - j ≤ kx ∧ OwnP wr B v1 (ps ++ qs) ∧ qs.length = j ∧ (∀ p ∈ qs, p.2 = ni ∧ p.1 < 18446744073709551616) ∧ Ot (fun k => B ≤ k) w wr)
    case atStart => exact ⟨0, [], rfl, Nat.zero_le _, Nat.le_refl _, by simpa using hP, rfl, by simp, Ot.refl _ _⟩
    case round =>
      obtain ⟨j, qs, rfl, hj, hjk, hO, hql, hq, ho⟩ := hrel
      have c1' := ho.cellv c1 (show ¬ B ≤ R by omega)
      by_cases hlt : j < pn
      · have hlti : (j : Int) < pn := by omega
        have hown : wr.ownsRow B 41 2 _ (ps ++ qs).length (ptsL (ps ++ qs)) := hO
        have hBr : B ≤ wr.heap.size := Nat.le_trans hB ho.size
        have hll : (ps ++ qs).length ≤ 30000 := by simp; omega
        obtain ⟨t, ht⟩ : ∃ t : ByteArray, t = ⟨(Lib.decDigits j).toArray⟩ := ⟨_, rfl⟩
        have hc21 := Ybaf.strconv_Itoa_small j (by omega) wr
        rw [← ht] at hc21
        have htl : t.size ≤ 20 := by
          rw [ht]
          exact dig_len j (by omega)
        clear ht
        have hns := nm_size ni
        obtain ⟨h, hh⟩ : ∃ h, h = hN (nm ni ++ ⟨#[35]⟩ ++ t) := ⟨_, rfl⟩
        have hsz : (nm ni ++ ⟨#[35]⟩ ++ t).size ≤ 9223372036854775807 := by
          have h35 : (⟨#[35]⟩ : ByteArray).size = 1 := rfl
          rw [ByteArray.size_append, ByteArray.size_append, hns, h35]
          omega
        have hc13 := hash_at (nm ni ++ ⟨#[35]⟩ ++ t) hsz wr
        clear hsz
        rw [← hh] at hc13
        have h64 : h < 18446744073709551616 := by rw [hh]; exact hN_lt _
        clear hh
        go_wp2_with (first
          | (go_at_call 21; refine hc21.mono ?_; rintro e w1 ⟨rfl, rfl⟩)
          | (go_at_call 13; refine hc13.mono ?_; rintro e w1 ⟨rfl, rfl⟩)
          | (at_builtin; refine wpList_append_own _ rfl _ _ 34 rfl B 41 i0 _ 2 16 Ybaf.underlying34 hi hz0 hz1 hz2 rfl (by decide) _ _ _ rfl (hown.alloc _) ⟨_, 0, none⟩ 1 1 [.int .u64 h, .int .i64 ni] rfl rfl (World.news_of_block (cs := #[.int .u64 h, .int .i64 ni]) (t := 41) (fr := (0, 0)) (heap_alloc_new _ _)) (by simp [Value.oneCell']) (by unfold maxLen; omega) (by omega) (by simp; omega) ?_; intro v' w2 hown2 hg2 hnil2))
        go_roundg (pn - (j + 1))
        case measure => omega
        case rel =>
          have hs : ps ++ (qs ++ [(h, ni)]) = (ps ++ qs) ++ [(h, ni)] := by simp
          refine ⟨j + 1, qs ++ [(h, ni)], by go_num, by omega, Nat.le_refl _, ?_, by simp [hql], ?_, ?_⟩
          · rw [hs]; exact OwnP.snoc hown2
          · intro p hp
            rcases List.mem_append.1 hp with hp | hp
            · exact hq p hp
            · rw [List.mem_singleton.1 hp]; exact ⟨rfl, h64⟩
          · exact (ho.alloc _).step (ot_grown hg2) (fun k hk _ => (World.ownsRow.lt hown k hk).1)
      · have hlti : ¬ (j : Int) < pn := by omega
        go_wp2_with fail
        go_ret
        exact ⟨_, rfl, qs, hO, by omega, by omega, fun a b h => hq (a, b) h, ho⟩
  · have q1 := neS w g xs.length cap
    have hgB := hg g rfl
    obtain ⟨m, hm⟩ : ∃ m, m = xs.length := ⟨_, rfl⟩
    rw [← hm] at hov q1 hl0 hxl ⊢
    have HC := hide (And.intro hm (And.intro hcx hx))
    clear hm hcx hx
    go_enter Ybaf.func10, Ybaf.ntmps10
    go_wp2_with fail
    go_loopg [1, 23] m (fun kx v1 v23 wr => ∃ (j : Nat) (qs : List Pt), v23 = .int .i64 j ∧ j ≤ m ∧ m - j ≤ kx ∧ OwnP wr B v1 (ps ++ qs) ∧ qs.length = j ∧ (∀ p ∈ qs, p.2 = ni ∧ p.1 < 18446744073709551616) ∧ Ot (fun k => B ≤ k) w wr)
    case atStart => exact ⟨0, [], rfl, Nat.zero_le _, Nat.le_refl _, by simpa using hP, rfl, by simp, Ot.refl _ _⟩
    case round =>
      obtain ⟨j, qs, rfl, hj, hjk, hO, hql, hq, ho⟩ := hrel
      by_cases hlt : j < m
      · have hlti : (j : Int) < m := by omega
        have hown : wr.ownsRow B 41 2 _ (ps ++ qs).length (ptsL (ps ++ qs)) := hO
        have hBr : B ≤ wr.heap.size := Nat.le_trans hB ho.size
        have hll : (ps ++ qs).length ≤ 30000 := by simp; omega
        have hcj := ho.cellv (HC.out.2.1 j (by rw [← HC.out.1]; exact hlt)) (show ¬ B ≤ g by omega)
        have h64 := HC.out.2.2 j
        generalize xs.getD j 0 = h at hcj h64
        go_wp2_with (first
          | (at_builtin; refine wpList_append_own _ rfl _ _ 34 rfl B 41 i0 _ 2 16 Ybaf.underlying34 hi hz0 hz1 hz2 rfl (by decide) _ _ _ rfl (hown.alloc _) ⟨_, 0, none⟩ 1 1 [.int .u64 h, .int .i64 ni] rfl rfl (World.news_of_block (cs := #[.int .u64 h, .int .i64 ni]) (t := 41) (fr := (0, 0)) (heap_alloc_new _ _)) (by simp [Value.oneCell']) (by unfold maxLen; omega) (by omega) (by simp; omega) ?_; intro v' w2 hown2 hg2 hnil2))
        go_roundg (m - (j + 1))
        case measure => omega
        case rel =>
          have hs : ps ++ (qs ++ [(h, ni)]) = (ps ++ qs) ++ [(h, ni)] := by simp
          refine ⟨j + 1, qs ++ [(h, ni)], by go_num, by omega, Nat.le_refl _, ?_, by simp [hql], ?_, ?_⟩
          · rw [hs]; exact OwnP.snoc hown2
          · intro p hp
            rcases List.mem_append.1 hp with hp | hp
            · exact hq p hp
            · rw [List.mem_singleton.1 hp]; exact ⟨rfl, h64⟩
          · exact (ho.alloc _).step (ot_grown hg2) (fun k hk _ => (World.ownsRow.lt hown k hk).1)
      · have hlti : ¬ (j : Int) < m := by omega
        go_wp2_with fail
        go_ret
        exact ⟨_, rfl, qs, hO, by omega, by omega, fun a b h => hq (a, b) h, ho⟩

end Go.Proofs.YbulkdjggFmt
