/-
  sort.choosePivot_func (47), at more than twelve elements, over a 'less' that may lay blocks.
-/
import Derived.Test.YbulkdjggFmtE
namespace Go.Proofs.YbulkdjggFmt
open Go.RowKit Go.Sort

section
variable {blk off size B : Nat} {lt : Pt → Pt → Bool} {l0 l1 : Value} {sf : Nat} {s0 s1 : Value} {Cx : Ctx}

theorem median_mem (d : Array Pt) (a b c s n : Nat) (ha : a < n) (hb : b < n) (hc : c < n) : (median lt d a b c s).1 < n ∧ (median lt d a b c s).2 ≤ s + 3 := by
  have m1 := order2_mem (lt := lt) d a b s n ha hb
  have m2 := order2_mem (lt := lt) d (order2 lt d a b s).2.1 c (order2 lt d a b s).2.2 n m1.2.1 hc
  have m3 := order2_mem (lt := lt) d (order2 lt d a b s).1 (order2 lt d (order2 lt d a b s).2.1 c (order2 lt d a b s).2.2).1 (order2 lt d (order2 lt d a b s).2.1 c (order2 lt d a b s).2.2).2.2 n m1.1 m2.1
  unfold median
  exact ⟨m3.2.1, by simp only; omega⟩

set_option maxHeartbeats 2000000 in
set_option maxRecDepth 100000 in
theorem pivot_any (hS : Srt blk off size B lt l0 l1 sf s0 s1 Cx) (a b : Nat) (d : Array Pt) (w : World) (hv : Sv blk off size B Cx w d) (hab : a + 12 < b) (hb : b ≤ size) :
    Calls Ybaf.prog 47 #[.agg #[.func (.func 22) #[] #[l0, l1], .func (.func sf) #[] #[s0, s1]], .int .i64 a, .int .i64 b] w fun e w' =>
      e = .returned (.tuple #[.int .i64 (choosePivot lt d a b).1, .int .i64 (hintCode (choosePivot lt d a b).2)]) ∧ Sv blk off size B Cx w' d ∧ Ot (fun _ => False) w w' := by
  have v1 := Ss.new hS hv
  have hbB := hv.big
  have hsm := hS.small
  have a1 : Ot (fun _ => False) (w.alloc (.cells #[.func (.func 22) #[] #[l0, l1], .func (.func sf) #[] #[s0, s1]] 72)) ((w.alloc (.cells #[.func (.func 22) #[] #[l0, l1], .func (.func sf) #[] #[s0, s1]] 72)).alloc (.cells #[.int .i64 0] 3)) := (Ot.refl _ _).alloc _
  have sv2 := v1.sv.ot hS a1 (fun _ h => h.elim)
  have dt2 := v1.dt.ot a1 (fun h => h)
  have ow : Ot (fun k => k = w.heap.size + 1) w ((w.alloc (.cells #[.func (.func 22) #[] #[l0, l1], .func (.func sf) #[] #[s0, s1]] 72)).alloc (.cells #[.int .i64 0] 3)) := ((Ot.refl _ _).alloc _).alloc _
  have hsz : (w.alloc (.cells #[.func (.func 22) #[] #[l0, l1], .func (.func sf) #[] #[s0, s1]] 72)).heap.size = w.heap.size + 1 := by simp
  have cn2 : Cn ((w.alloc (.cells #[.func (.func 22) #[] #[l0, l1], .func (.func sf) #[] #[s0, s1]] 72)).alloc (.cells #[.int .i64 0] 3)) (w.heap.size + 1) 0 := ⟨by
    rw [World.cell?_alloc_at _ _ _ _ (by rw [hsz])]
    rfl, World.frozen?_alloc_at _ _ _ _ (by rw [hsz])⟩
  have hq : B ≤ w.heap.size + 1 := by omega
  have hne : w.heap.size ≠ w.heap.size + 1 := by omega
  have HS := hide hS
  have H1 := hide (And.intro sv2 (And.intro dt2 (And.intro ow cn2)))
  clear hv v1 hS a1 sv2 dt2 ow cn2 hsz
  obtain ⟨I, hI⟩ : ∃ I : Nat, I = a + (b - a) / 4 * 1 := ⟨_, rfl⟩
  obtain ⟨J, hJ⟩ : ∃ J : Nat, J = a + (b - a) / 4 * 2 := ⟨_, rfl⟩
  obtain ⟨K, hK⟩ : ∃ K : Nat, K = a + (b - a) / 4 * 3 := ⟨_, rfl⟩
  have eI : ((a : Int) + ((b : Int) - (a : Int)) / 4) = (I : Int) := by omega
  have eJ : ((a : Int) + ((b : Int) - (a : Int)) / 4 * 2) = (J : Int) := by omega
  have eK : ((a : Int) + ((b : Int) - (a : Int)) / 4 * 3) = (K : Int) := by omega
  have bI : 1 ≤ I ∧ I + 1 < size := by omega
  have bJ : 1 ≤ J ∧ J + 1 < size := by omega
  have bK : 1 ≤ K ∧ K + 1 < size := by omega
  have h8 : (8 : Int) ≤ (b : Int) - a := by omega
  by_cases h50 : 50 ≤ b - a
  · have h50i : (50 : Int) ≤ (b : Int) - a := by omega
    have hcp : choosePivot lt d a b = ((median lt d (medianAdjacent lt d I 0).1 (medianAdjacent lt d J (medianAdjacent lt d I 0).2).1 (medianAdjacent lt d K (medianAdjacent lt d J (medianAdjacent lt d I 0).2).2).1 (medianAdjacent lt d K (medianAdjacent lt d J (medianAdjacent lt d I 0).2).2).2).1,
        hintOf (median lt d (medianAdjacent lt d I 0).1 (medianAdjacent lt d J (medianAdjacent lt d I 0).2).1 (medianAdjacent lt d K (medianAdjacent lt d J (medianAdjacent lt d I 0).2).2).1 (medianAdjacent lt d K (medianAdjacent lt d J (medianAdjacent lt d I 0).2).2).2).2) := by
      unfold choosePivot hintOf
      simp only [← hI, ← hJ, ← hK]
      rw [if_pos (by omega), if_pos (by omega)]
    rw [hcp]
    simp only
    have m1 := median_mem (lt := lt) d (I - 1) I (I + 1) 0 size (by omega) (by omega) (by omega)
    have k1 := fun W h2 h3 => adj_any HS.out I (w.heap.size + 1) 0 d W h2 h3 hq bI.1 bI.2 (by omega)
    change (medianAdjacent lt d I 0).1 < size ∧ (medianAdjacent lt d I 0).2 ≤ _ at m1
    obtain ⟨x1, t1, e1⟩ : ∃ x t, medianAdjacent lt d I 0 = (x, t) := ⟨_, _, rfl⟩
    simp only [e1] at m1 k1 ⊢
    have m2 := median_mem (lt := lt) d (J - 1) J (J + 1) t1 size (by omega) (by omega) (by omega)
    have k2 := fun W h2 h3 => adj_any HS.out J (w.heap.size + 1) t1 d W h2 h3 hq bJ.1 bJ.2 (by omega)
    change (medianAdjacent lt d J t1).1 < size ∧ (medianAdjacent lt d J t1).2 ≤ _ at m2
    obtain ⟨x2, t2, e2⟩ : ∃ x t, medianAdjacent lt d J t1 = (x, t) := ⟨_, _, rfl⟩
    simp only [e2] at m2 k2 ⊢
    have m3 := median_mem (lt := lt) d (K - 1) K (K + 1) t2 size (by omega) (by omega) (by omega)
    have k3 := fun W h2 h3 => adj_any HS.out K (w.heap.size + 1) t2 d W h2 h3 hq bK.1 bK.2 (by omega)
    change (medianAdjacent lt d K t2).1 < size ∧ (medianAdjacent lt d K t2).2 ≤ _ at m3
    obtain ⟨x3, t3, e3⟩ : ∃ x t, medianAdjacent lt d K t2 = (x, t) := ⟨_, _, rfl⟩
    simp only [e3] at m3 k3 ⊢
    have k4 := fun W h2 h3 => median_any HS.out x1 x2 x3 (w.heap.size + 1) t3 d W h2 h3 hq m1.1 m2.1 m3.1 (by omega)
    have m4 := median_mem (lt := lt) d x1 x2 x3 t3 size m1.1 m2.1 m3.1
    obtain ⟨x4, t4, e4⟩ : ∃ x t, median lt d x1 x2 x3 t3 = (x, t) := ⟨_, _, rfl⟩
    simp only [e4] at m4 k4 ⊢
    have HK := hide (And.intro k1 (And.intro k2 (And.intro k3 k4)))
    have c0 := H1.out.2.1.c0
    have c1 := H1.out.2.1.c1
    clear k1 k2 k3 k4 e1 e2 e3 e4 hcp hI hJ hK
    go_enter Ybaf.func47, Ybaf.ntmps47
    go_wp2_with fail
    refine (HK.out.1 _ H1.out.1 H1.out.2.2.2).mono ?_
    rintro e w2 ⟨rfl, v2, n2, o2⟩
    have d2 := H1.out.2.1.ot o2 hne
    have p2 := H1.out.2.2.1.trans o2
    have c20 := d2.c0
    have c21 := d2.c1
    clear c0 c1
    go_wp2_with fail
    refine (HK.out.2.1 _ v2 n2).mono ?_
    rintro e w3 ⟨rfl, v3, n3, o3⟩
    have d3 := d2.ot o3 hne
    have p3 := p2.trans o3
    have c30 := d3.c0
    have c31 := d3.c1
    clear c20 c21 v2 n2 d2 p2 o2
    go_wp2_with fail
    refine (HK.out.2.2.1 _ v3 n3).mono ?_
    rintro e w4 ⟨rfl, v4, n4, o4⟩
    have d4 := d3.ot o4 hne
    have p4 := p3.trans o4
    have c40 := d4.c0
    have c41 := d4.c1
    clear c30 c31 v3 n3 d3 p3 o3
    go_wp2_with fail
    refine (HK.out.2.2.2 _ v4 n4).mono ?_
    rintro e w5 ⟨rfl, v5, n5, o5⟩
    have d5 := d4.ot o5 hne
    have p5 := p4.trans o5
    have c50 := d5.c0
    have c51 := d5.c1
    clear c40 c41 v4 n4 d4 p4 o4 c50 c51 d5
    have en := n5.cell
    have pw : Ot (fun _ => False) w w5 := p5.mono (fun i hi hl => by omega)
    have HP := hide pw
    clear n5 p5 pw o5
    go_wp2_with fail
    all_goals
      go_ret2
      refine ⟨?_, v5, HP.out⟩
      unfold hintOf
      first
        | (have h0 : (t4 : Int) = 0 := of_beq_int (by assumption)
           rw [if_pos (by omega)]; rfl)
        | (have h0 : (t4 : Int) ≠ 0 := of_bne_int (by assumption)
           have h1 : (t4 : Int) = 12 := of_beq_int (by assumption)
           rw [if_neg (by omega), if_pos (by omega)]; rfl)
        | (have h0 : (t4 : Int) ≠ 0 := of_bne_int (by assumption)
           have h1 : (t4 : Int) ≠ 12 := of_bne_int (by assumption)
           rw [if_neg (by omega), if_neg (by omega)]; rfl)
  · have h50i : ¬ (50 : Int) ≤ (b : Int) - a := by omega
    have hcp : choosePivot lt d a b = ((median lt d I J K 0).1, hintOf (median lt d I J K 0).2) := by
      unfold choosePivot hintOf
      simp only [← hI, ← hJ, ← hK]
      rw [if_pos (by omega), if_neg (by omega)]
    rw [hcp]
    simp only
    have k1 := fun W h2 h3 => median_any HS.out I J K (w.heap.size + 1) 0 d W h2 h3 hq (by omega) (by omega) (by omega) (by omega)
    obtain ⟨x4, t4, e4⟩ : ∃ x t, median lt d I J K 0 = (x, t) := ⟨_, _, rfl⟩
    simp only [e4] at k1 ⊢
    have HK := hide (And.intro k1 True.intro)
    have c0 := H1.out.2.1.c0
    have c1 := H1.out.2.1.c1
    clear k1 e4 hcp hI hJ hK
    go_enter Ybaf.func47, Ybaf.ntmps47
    go_wp2_with fail
    refine (HK.out.1 _ H1.out.1 H1.out.2.2.2).mono ?_
    rintro e w5 ⟨rfl, v5, n5, o5⟩
    have d5 := H1.out.2.1.ot o5 hne
    have p5 := H1.out.2.2.1.trans o5
    have c50 := d5.c0
    have c51 := d5.c1
    clear c0 c1 c50 c51 d5
    have en := n5.cell
    have pw : Ot (fun _ => False) w w5 := p5.mono (fun i hi hl => by omega)
    have HP := hide pw
    clear n5 p5 pw o5
    go_wp2_with fail
    all_goals
      go_ret2
      refine ⟨?_, v5, HP.out⟩
      unfold hintOf
      first
        | (have h0 : (t4 : Int) = 0 := of_beq_int (by assumption)
           rw [if_pos (by omega)]; rfl)
        | (have h0 : (t4 : Int) ≠ 0 := of_bne_int (by assumption)
           have h1 : (t4 : Int) = 12 := of_beq_int (by assumption)
           rw [if_neg (by omega), if_pos (by omega)]; rfl)
        | (have h0 : (t4 : Int) ≠ 0 := of_bne_int (by assumption)
           have h1 : (t4 : Int) ≠ 12 := of_bne_int (by assumption)
           rw [if_neg (by omega), if_neg (by omega)]; rfl)
end

end Go.Proofs.YbulkdjggFmt
