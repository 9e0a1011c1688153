/-
  NewPlaced (4).
-/
import Derived.Test.YbulkdjggFmtY
import Derived.Test.YbulkdjggFmtN
import Derived.Test.YbulkdjggFmtQ
namespace Go.Proofs.YbulkdjggFmt
open Go.RowKit Go.Sort Go.ChangeMaps

theorem make340 (m : Nat) (hn : m ≤ 100000) : ∃ Z : Array Value, Z.size = m * 2 ∧ ∀ W : World, (Instr.makeSlice 34 (.int .i64 0) (.int .i64 m)).run Ybaf.prog W = .ok (.slice (some ⟨W.heap.size, 0, none⟩) 0 m) (W.alloc (.cells Z 41)) := make34 0 m hn (Nat.zero_le _)

theorem ptsL_get : ∀ (ps : List Pt) (j : Nat), j < ps.length * 2 → (ptsL ps)[j]? = some ((enc (ps.getD (j / 2) default))[j % 2]!)
  | [], j, h => by simp at h
  | p :: r, 0, _ => by simp [ptsL, enc]
  | p :: r, 1, _ => by simp [ptsL, enc]
  | p :: r, j + 2, h => by
    have ih := ptsL_get r j (by simp at h; omega)
    have e1 : (j + 2) / 2 = j / 2 + 1 := by omega
    have e2 : (j + 2) % 2 = j % 2 := by omega
    rw [e1, e2]
    show (enc p ++ ptsL r)[j + 2]? = _
    simpa [enc] using ih

section
variable {w : World} {B : Nat} {v : Value} {ps : List Pt}
theorem OwnP.form (h : OwnP w B v ps) (h0 : 0 < ps.length) : ∃ g cap, v = .slice (some ⟨g, 0, none⟩) ps.length cap ∧ B ≤ g ∧ g < w.heap.size ∧ HoldsK enc 2 w g 0 ps.toArray := by
  have h' : w.ownsRow B 41 2 v ps.length (ptsL ps) := h
  rcases h'.2 with ⟨_, h1⟩ | ⟨g, cap, cur, rfl, hb, hg, _⟩
  · omega
  · refine ⟨g, cap, rfl, hb, (Array.getElem?_eq_some_iff.1 hg).1, fun j hj => ?_⟩
    rw [Nat.zero_add]
    refine ⟨?_, h'.frozenAt j⟩
    have hj' : j < ps.length * 2 := by simpa using hj
    rw [h'.cellAt j hj', ptsL_get ps j hj', get_flatK _ _ _ _ (by simpa using hj')]
    have hd : j / 2 < ps.length := by omega
    simp [List.getD_eq_getElem?_getD, hd]
end

/-- The ring's own fields, without its points. -/
structure Er (R nb ob n cn pn : Nat) (ov : Nat → Value) (px : Nat → List Nat) (W : World) : Prop where
  c0 : W.cell? ⟨R, 0, none⟩ = some (.slice (some ⟨nb, 0, none⟩) n cn)
  c1 : W.cell? ⟨R, 1, none⟩ = some (.int .i64 pn)
  c2 : W.cell? ⟨R, 2, none⟩ = some (.slice (some ⟨ob, 0, none⟩) n n)
  ns : ∀ i, i < n → W.cell? ⟨nb, i, none⟩ = some (.string (nm i))
  os : ∀ i, i < n → W.cell? ⟨ob, i, none⟩ = some (ov i)
  rd : ∀ i, i < n → Rd W (ov i) (px i)

theorem Rd.ot {W W' : World} {v : Value} {xs : List Nat} {S : Nat → Prop} (h : Rd W v xs) (ho : Ot S W W') (hs : ∀ g, v.ownBlock = some g → ¬ S g) : Rd W' v xs := by
  rcases h with k | ⟨g, cap, k, k3, k4⟩
  · exact .inl k
  · exact .inr ⟨g, cap, k, k3, fun j hj => ho.cellv (k4 j hj) (hs g (by rw [k]; rfl))⟩

theorem Er.ot {R nb ob n cn pn : Nat} {ov : Nat → Value} {px : Nat → List Nat} {W W' : World} {S : Nat → Prop} (h : Er R nb ob n cn pn ov px W) (ho : Ot S W W') (hR : ¬ S R) (hn : ¬ S nb) (hob : ¬ S ob) (hs : ∀ i, i < n → ∀ g, (ov i).ownBlock = some g → ¬ S g) : Er R nb ob n cn pn ov px W' :=
  ⟨ho.cellv h.c0 hR, ho.cellv h.c1 hR, ho.cellv h.c2 hR, fun i hi => ho.cellv (h.ns i hi) hn, fun i hi => ho.cellv (h.os i hi) hob, fun i hi => (h.rd i hi).ot ho (hs i hi)⟩

/-- The points' cell is written. -/
theorem Er.set {R nb ob n cn pn : Nat} {ov : Nat → Value} {px : Nat → List Nat} {W : World} (h : Er R nb ob n cn pn ov px W) (hn : nb ≠ R) (hob : ob ≠ R) (hs : ∀ i, i < n → ∀ g, (ov i).ownBlock = some g → g ≠ R) (v : Value) : Er R nb ob n cn pn ov px (W.setCell ⟨R, 3, none⟩ v) := by
  have ho : Ot (fun k => k = R) W (W.setCell ⟨R, 3, none⟩ v) := (Ot.refl (fun k => k = R) W).setCell (p := ⟨R, 3, none⟩) (fun _ => rfl) _
  have hk : ∀ (j : Nat) (u : Value), j ≠ 3 → W.cell? ⟨R, j, none⟩ = some u → (W.setCell ⟨R, 3, none⟩ v).cell? ⟨R, j, none⟩ = some u := fun j u hj hu => by
    rw [World.cell?_setCell_other _ _ _ _ (fun e => hj (by cases e; rfl))]
    exact hu
  exact ⟨hk 0 _ (by omega) h.c0, hk 1 _ (by omega) h.c1, hk 2 _ (by omega) h.c2, fun i hi => ho.cellv (h.ns i hi) hn, fun i hi => ho.cellv (h.os i hi) hob, fun i hi => (h.rd i hi).ot ho (hs i hi)⟩


set_option maxHeartbeats 4000000 in
set_option maxRecDepth 100000 in
theorem placed_at (nb0 n cn0 pn pm : Nat) (l : List (Nat × Value × Nat)) (c : Nat) (px : Nat → List Nat) (w : World) (hns : ∀ i, i < n → w.cell? ⟨nb0, i, none⟩ = some (.string (nm i))) (hn1 : 1 ≤ n) (hn4 : n ≤ 4) (hp1 : 1 ≤ pn) (hp8 : pn ≤ 8)
    (hm : w.heap[pm]? = some (mobj sk id l c)) (hk : ∀ e ∈ l, e.1 < 4) (hpl : Pl w n l px) (hpx : ∀ i, (px i).length ≤ 4096) (hpv : ∀ i j, (px i).getD j 0 < 18446744073709551616) :
    Calls Ybaf.prog 4 #[.slice (some ⟨nb0, 0, none⟩) n cn0, .int .i64 pn, .map (some pm)] w fun e w' =>
      ∃ R nb cn ob ov pb cp pts, e = .returned (.tuple #[.pointer (some ⟨R, 0, none⟩), .nilIface]) ∧ Er R nb ob n cn pn ov px w' ∧ Pts R pb cp pts w' ∧ 0 < pts.size ∧ pts.size ≤ 20000 ∧ (∀ t, t < pts.size → okP n pts[t]!) ∧
        (∀ i j, i < j → j < pts.size → pts[i]!.1 ≤ pts[j]!.1) ∧ Below w.heap.size w w' := by
  have hc9 := empty_at nb0 n cn0 pn pm l c px w hns hn1 hn4 hp1 hm hk hpl hpx
  have HC9 := hide hc9
  have HPV := hide (And.intro hpx hpv)
  clear hc9 hns hm hk hpl hpx hpv
  have hM : n * pn ≤ 32 := by
    calc n * pn ≤ 4 * 8 := Nat.mul_le_mul hn4 hp8
      _ = 32 := rfl
  have hMi : (n : Int) * pn = ((n * pn : Nat) : Int) := by simp
  obtain ⟨M, hM'⟩ : ∃ M, M = n * pn := ⟨_, rfl⟩
  rw [← hM'] at hM hMi
  have HM := hide hM'
  clear hM'
  obtain ⟨Z, hZs, hmk⟩ := make340 M (by omega)
  go_enter Ybaf.func4, Ybaf.ntmps4
  go_upto_region 4 with (go_at_call 9; refine HC9.out.mono ?_; rintro e w1 ⟨R, nb, cn, ob, ov, rfl, hE, hov⟩)
  have hE' := hE
  have e3 := hE.c3
  have f3 := hE.f3
  have e0 := hE.c0
  have hRl := World.block_lt_of_cell? _ _ e3
  dsimp only at hRl
  have HE := hide (And.intro hE hov)
  clear hE hE' hov HC9
  obtain ⟨B, hB⟩ : ∃ B, B = w1.heap.size := ⟨_, rfl⟩
  have HB := hide hB
  clear hB
  have hdn : ¬ R = nb := HE.out.1.dRn
  have hdo : ¬ R = ob := HE.out.1.dR
  have hnl : nb < w1.heap.size := World.block_lt_of_cell? _ _ (HE.out.1.ns 0 (by omega))
  have hol : ob < w1.heap.size := World.block_lt_of_cell? _ _ (HE.out.1.os 0 (by omega)).1
  have hwR : w.heap.size ≤ R := HE.out.1.lR
  have hRB : R < B := by rw [HB.out]; exact hRl
  have HG : Hid (∀ i, i < n → ∀ g, (ov i).ownBlock = some g → g < B ∧ g ≠ R) := hide (fun i hi g hg => by
    refine ⟨?_, ((HE.out.2 i hi).2 g hg).2⟩
    rw [HB.out]
    rcases (HE.out.2 i hi).1 with ⟨k, _⟩ | ⟨g', cap, k, k3, k4⟩
    · rw [k] at hg; simp [Value.ownBlock] at hg
    · rw [k] at hg
      have : g = g' := by simpa [Value.ownBlock] using hg.symm
      rw [this]
      exact World.block_lt_of_cell? _ _ (k4 0 k3))
  go_wp2_with fail
  go_loopg [34] n (fun kx v34 wr => ∃ (t : Nat) (v : Value) (ps : List Pt), v34 = .int .i64 t ∧ t ≤ n ∧ n - t ≤ kx ∧ Er R nb ob n cn pn ov px wr ∧ wr.cell? ⟨R, 3, none⟩ = some v ∧ wr.frozen? ⟨R, 3, none⟩ = false ∧ OwnP wr B v ps ∧ (∀ p ∈ ps, okP n p) ∧ ps.length ≤ t * 4104 ∧
    (0 < t → 0 < ps.length) ∧ Below w.heap.size w wr ∧ B ≤ wr.heap.size)
  case atStart =>
    obtain ⟨hE, hov⟩ := HE.out
    have hEr : Er R nb ob n cn pn ov px w1 := ⟨hE.c0, hE.c1, hE.c2, hE.ns, fun i hi => (hE.os i hi).1, fun i hi => (hov i hi).1⟩
    have hEs := hEr.set (fun h => hdn h.symm) (fun h => hdo h.symm) (fun i hi g hg => (HG.out i hi g hg).2) (.slice (some ⟨w1.heap.size, 0, none⟩) 0 M)
    have hst : Ot (fun k => k = R) w1 (w1.setCell ⟨R, 3, none⟩ (.slice (some ⟨w1.heap.size, 0, none⟩) 0 M)) := (Ot.refl (fun k => k = R) _).setCell (p := ⟨R, 3, none⟩) (fun _ => rfl) _
    have hsz : (w1.setCell ⟨R, 3, none⟩ (.slice (some ⟨w1.heap.size, 0, none⟩) 0 M)).heap.size = w1.heap.size := by simp [World.setCell]
    have ha := Ot.of_below (fun _ => False) (below_alloc (w1.setCell ⟨R, 3, none⟩ (.slice (some ⟨w1.heap.size, 0, none⟩) 0 M)) (.cells Z 41))
    refine ⟨0, _, [], rfl, Nat.zero_le _, Nat.le_refl _, hEs.ot ha (fun h => h) (fun h => h) (fun h => h) (fun _ _ _ _ h => h), ha.cellv (World.cell?_setCell_same _ _ _ hE.c3) (fun h => h), ?_, ?_, by simp, Nat.zero_le _, fun h => by omega, ?_, ?_⟩
    · rw [ha.frozen (p := ⟨R, 3, none⟩) (by rw [hsz]; exact hRl) (fun h => h), World.frozen?_setCell]; exact hE.f3
    · refine ⟨rfl, .inr ⟨w1.heap.size, M, Z, rfl, by rw [HB.out]; exact Nat.le_refl _, ?_, Nat.zero_le _, by unfold maxLen; omega, hZs, rfl⟩⟩
      have key : ∀ Wx : World, Wx.heap.size = w1.heap.size → (Wx.alloc (.cells Z 41)).heap[w1.heap.size]? = some (.cells Z 41) := fun Wx h => by rw [← h]; exact heap_alloc_new _ _
      exact key _ hsz
    · exact (hE.b.trans (hst.below hE.b.size (fun k hk => by omega))).trans (ha.below (by rw [hsz]; exact hE.b.size) (fun _ h => h.elim))
    · rw [HB.out]; exact Nat.le_trans hst.size ha.size
  case round =>
    obtain ⟨t, v, ps, rfl, htn, htk, hEr, hc3, hf3, hO, hok, hpl, hpz, hBw, hBs⟩ := hrel
    by_cases hlt : t < n
    · have hlti : (t : Int) < n := by omega
      have hmul : t * 4104 ≤ 4 * 4104 := Nat.mul_le_mul_right _ (by omega)
      have hc10 := (append_at R nb n cn ob n t pn B v (ov t) ps (px t) wr hEr.c0 hEr.c1 hEr.c2 (hEr.ns t hlt) (hEr.os t hlt) (hEr.rd t hlt) hlt hp1 hp8 (fun j => HPV.out.2 t j) (HPV.out.1 t) (by omega) hO hBs hRB (fun g hg => (HG.out t hlt g hg).1)).mono
        (R' := fun e w' => ∃ g cap K qs, e = .returned (.slice (some ⟨g, 0, none⟩) K cap) ∧ OwnP w' B (.slice (some ⟨g, 0, none⟩) K cap) (ps ++ qs) ∧ 0 < qs.length ∧ qs.length ≤ (px t).length + 8 ∧ (∀ p ∈ qs, p.2 = t ∧ p.1 < 18446744073709551616) ∧ Ot (fun k => B ≤ k) wr w')
        (fun e w' ⟨v', qs, k1, k2, k3, k4, k5, k6⟩ => by
          obtain ⟨g, cap, rfl, _⟩ := k2.form (by simp; omega)
          exact ⟨g, cap, _, qs, k1, k2, k3, k4, k5, k6⟩)
      have HC := hide hc10
      have HEr := hide hEr
      clear hc10 hEr hO
      go_wp2_with (go_at_call 10; refine HC.out.mono ?_; rintro e w2 ⟨g, cap, K, qs, rfl, hO2, hq0, hql, hqk, ho2⟩; have hc3' := ho2.cellv hc3 (show ¬ B ≤ R by omega); have hf3' := (ho2.frozen (p := ⟨R, 3, none⟩) (World.block_lt_of_cell? _ _ hc3) (show ¬ B ≤ R by omega)).trans hf3)
      go_roundg (n - (t + 1))
      case measure => omega
      case rel =>
        have hBw1 : w1.heap.size = B := HB.out.symm
        have hEr2 := HEr.out.ot ho2 (by omega) (by omega) (by omega) (fun i hi g hg => by have := (HG.out i hi g hg).1; omega)
        have hst : Ot (fun k => k = R) w2 (w2.setCell ⟨R, 3, none⟩ (.slice (some ⟨g, 0, none⟩) K cap)) := (Ot.refl (fun k => k = R) _).setCell (p := ⟨R, 3, none⟩) (fun _ => rfl) _
        have hl4 := HPV.out.1 t
        have hgl := (World.ownsRow.lt hO2 g rfl).1
        refine ⟨t + 1, _, ps ++ qs, by go_num, by omega, Nat.le_refl _, hEr2.set (fun h => hdn h.symm) (fun h => hdo h.symm) (fun i hi g hg => (HG.out i hi g hg).2) _, World.cell?_setCell_same _ _ _ hc3', by rw [World.frozen?_setCell]; exact hf3', ?_, ?_, ?_, fun _ => by simp; omega, ?_, ?_⟩
        · refine ownsRow_ot hO2 hst (fun g' hg' h => ?_)
          have : g' = g := by simpa [Value.ownBlock] using hg'.symm
          omega
        · intro p hp
          rcases List.mem_append.1 hp with hp | hp
          · exact hok p hp
          · exact ⟨(hqk p hp).2, by rw [(hqk p hp).1]; exact hlt⟩
        · rw [List.length_append, Nat.add_mul]; omega
        · exact (hBw.trans (ho2.below hBw.size (fun k hk => by omega))).trans (hst.below (Nat.le_trans hBw.size ho2.size) (fun k hk => by omega))
        · exact Nat.le_trans (Nat.le_trans hBs ho2.size) hst.size
    · have hlti : ¬ (t : Int) < n := by omega
      have hmul : t * 4104 ≤ 4 * 4104 := Nat.mul_le_mul_right _ (by omega)
      obtain ⟨g, cap, rfl, hBg, hgl, hH⟩ := hO.form (hpz (by omega))
      have hBw1 : w1.heap.size = B := HB.out.symm
      have hc11 := sortPoints_at R nb n cn g cap wr hn4 (by omega) ps.toArray (by simp; omega) hEr.c0 hEr.ns hH hgl (fun i hi => by
        have hi' : i < ps.length := by simpa using hi
        have : ps.toArray[i]! = ps[i] := by simp [hi']
        rw [this]
        exact hok _ (List.getElem_mem hi')) (by omega) (by omega)
      rw [List.size_toArray] at hc11
      have HC := hide hc11
      have HEr := hide hEr
      clear hc11 hEr
      go_wp2_with (go_at_call 11; refine HC.out.mono ?_; rintro e w2 ⟨rfl, d', hp', hs', hH', ho'⟩)
      go_ret2
      have hd' : d'.size = ps.length := by rw [hp'.1]; simp
      have hcR := ho'.cellv hc3 (show ¬ R = g by omega)
      refine ⟨R, nb, cn, ob, ov, g, cap, d', rfl, ?_, ⟨by rw [hd']; exact hcR, hH'⟩, by rw [hd']; exact hpz (by omega), by rw [hd']; omega, ?_, ?_, hBw.trans (ho'.below hBw.size (fun k hk => by omega))⟩
      · exact HEr.out.ot ho' (by omega) (by omega) (by omega) (fun i hi g' hg' => by have := (HG.out i hi g' hg').1; omega)
      · intro i hi
        have hall := permIn_all ps.toArray d' 0 ps.length (okP n) (by simp) hp' (fun u _ hu => by
          have : ps.toArray[u]! = ps[u] := by simp [hu]
          rw [this]
          exact hok _ (List.getElem_mem hu))
        exact hall i (Nat.zero_le _) (by omega)
      · intro i j hij hj
        have h := hs' i j (Nat.zero_le _) hij (by omega)
        simp only [ltP, Bool.or_eq_false_iff, decide_eq_false_iff_not] at h
        omega

end Go.Proofs.YbulkdjggFmt
