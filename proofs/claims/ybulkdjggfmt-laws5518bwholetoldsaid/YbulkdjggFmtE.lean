/-
  sort.order2_func (62), median_func (57), medianAdjacent_func (56), choosePivot_func (47) over a 'less' that may lay blocks.
-/
import Derived.Test.YbulkdjggFmtD
namespace Go.Proofs.YbulkdjggFmt
open Go.RowKit Go.Sort

/-- The count of swaps, in block q. -/
structure Cn (W : World) (q s : Nat) : Prop where
  cell : W.cell? ⟨q, 0, none⟩ = some (.int .i64 s)
  free : W.frozen? ⟨q, 0, none⟩ = false

theorem Cn.ot {W W' : World} {q s : Nat} (h : Cn W q s) {S : Nat → Prop} (ho : Ot S W W') (hs : ¬ S q) : Cn W' q s :=
  ⟨ho.cellv h.cell hs, (ho.frozen (p := ⟨q, 0, none⟩) (World.block_lt_of_cell? _ _ h.cell) hs).trans h.free⟩

section
variable {blk off size B : Nat} {lt : Pt → Pt → Bool} {l0 l1 : Value} {sf : Nat} {s0 s1 : Value} {Cx : Ctx}

set_option maxHeartbeats 1000000 in
set_option maxRecDepth 100000 in
theorem order2_any (hS : Srt blk off size B lt l0 l1 sf s0 s1 Cx) (a b q s : Nat) (d : Array Pt) (w : World) (hv : Sv blk off size B Cx w d) (hc : Cn w q s) (hq : B ≤ q) (ha : a < size) (hb : b < size) (hs : s < 1000) :
    Calls Ybaf.prog 62 #[.agg #[.func (.func 22) #[] #[l0, l1], .func (.func sf) #[] #[s0, s1]], .int .i64 a, .int .i64 b, .pointer (some ⟨q, 0, none⟩)] w fun e w' =>
      e = .returned (.tuple #[.int .i64 (order2 lt d a b s).1, .int .i64 (order2 lt d a b s).2.1]) ∧ Sv blk off size B Cx w' d ∧ Cn w' q (order2 lt d a b s).2.2 ∧ Ot (fun k => k = q) w w' := by
  have v1 := Ss.new hS hv
  have hbB := hv.big
  have hlow := hS.low
  have hsm := hS.small
  have hqw := World.block_lt_of_cell? _ _ hc.cell
  simp only at hqw
  have o1 : Ot (fun k => k = q) w (w.alloc (.cells #[.func (.func 22) #[] #[l0, l1], .func (.func sf) #[] #[s0, s1]] 72)) := (Ot.refl _ _).alloc _
  have n1 := hc.ot ((Ot.refl (fun _ => False) w).alloc (.cells #[.func (.func 22) #[] #[l0, l1], .func (.func sf) #[] #[s0, s1]] 72)) (fun h => h)
  have hl := v1.sv.lessAt hS b a hb ha
  have HX := hide (And.intro v1 (And.intro o1 (And.intro n1 hl)))
  have c0 := v1.dt.c0
  have HS := hide hS
  clear hv hc v1 o1 n1 hl hS
  unfold order2
  cases hlv : lt d[b]! d[a]! with
  | true =>
    rw [hlv] at HX
    simp only [if_true]
    go_enter Ybaf.func62, Ybaf.ntmps62
    go_wp2_with (first
      | (go_at_call 22; refine HX.out.2.2.2.mono ?_; rintro e w2 ⟨rfl, v2, b2⟩
         have n2 := HX.out.2.2.1.ot (Ot.of_below (fun _ => False) b2) (fun h => h)
         have o2 := HX.out.2.1.step (Ot.of_below (fun _ => False) b2) (fun _ h _ => h.elim)
         have e1 := n2.cell
         have e2 := n2.free
         have H2 := hide (And.intro v2 o2)
         clear v2 b2 n2 o2)
      | fail)
    go_ret2
    refine ⟨rfl, H2.out.1.ot HS.out ((Ot.refl (fun k => k = q) w2).setCell (fun _ => rfl) _) (fun k hk => by omega), ⟨?_, ?_⟩, H2.out.2.setCell (fun _ => rfl) _⟩
    · rw [World.cell?_setCell_same _ _ _ e1]
      go_num
    · rw [World.frozen?_setCell]
      exact e2
  | false =>
    rw [hlv] at HX
    simp only [Bool.false_eq_true, if_false]
    go_enter Ybaf.func62, Ybaf.ntmps62
    go_wp2_with (first
      | (go_at_call 22; refine HX.out.2.2.2.mono ?_; rintro e w2 ⟨rfl, v2, b2⟩
         have n2 := HX.out.2.2.1.ot (Ot.of_below (fun _ => False) b2) (fun h => h)
         have o2 := HX.out.2.1.step (Ot.of_below (fun _ => False) b2) (fun _ h _ => h.elim)
         have H2 := hide (And.intro v2 (And.intro n2 o2))
         clear v2 b2 n2 o2)
      | fail)
    go_ret2
    exact ⟨rfl, H2.out.1, H2.out.2.1, H2.out.2.2⟩
theorem order2_mem (d : Array Pt) (a b s n : Nat) (ha : a < n) (hb : b < n) : (order2 lt d a b s).1 < n ∧ (order2 lt d a b s).2.1 < n ∧ (order2 lt d a b s).2.2 ≤ s + 1 := by
  unfold order2
  split <;> simp <;> omega

set_option maxHeartbeats 1000000 in
set_option maxRecDepth 100000 in
theorem median_any (hS : Srt blk off size B lt l0 l1 sf s0 s1 Cx) (a b c q s : Nat) (d : Array Pt) (w : World) (hv : Sv blk off size B Cx w d) (hc : Cn w q s) (hq : B ≤ q) (ha : a < size) (hb : b < size) (hcs : c < size) (hs : s < 900) :
    Calls Ybaf.prog 57 #[.agg #[.func (.func 22) #[] #[l0, l1], .func (.func sf) #[] #[s0, s1]], .int .i64 a, .int .i64 b, .int .i64 c, .pointer (some ⟨q, 0, none⟩)] w fun e w' =>
      e = .returned (.int .i64 (median lt d a b c s).1) ∧ Sv blk off size B Cx w' d ∧ Cn w' q (median lt d a b c s).2 ∧ Ot (fun k => k = q) w w' := by
  have v1 := Ss.new hS hv
  have hqw := World.block_lt_of_cell? _ _ hc.cell
  simp only at hqw
  have o1 : Ot (fun k => k = q) w (w.alloc (.cells #[.func (.func 22) #[] #[l0, l1], .func (.func sf) #[] #[s0, s1]] 72)) := (Ot.refl _ _).alloc _
  have n1 := hc.ot ((Ot.refl (fun _ => False) w).alloc (.cells #[.func (.func 22) #[] #[l0, l1], .func (.func sf) #[] #[s0, s1]] 72)) (fun h => h)
  have m1 := order2_mem (lt := lt) d a b s size ha hb
  unfold median
  simp only
  have k1 := order2_any hS a b q s d _ v1.sv n1 hq ha hb (by omega)
  obtain ⟨x1, y1, t1, e1⟩ : ∃ x y t, order2 lt d a b s = (x, y, t) := ⟨_, _, _, rfl⟩
  rw [e1] at m1 k1 ⊢
  simp only at m1 k1 ⊢
  have m2 := order2_mem (lt := lt) d y1 c t1 size m1.2.1 hcs
  have k2 := fun W h2 h3 => order2_any hS y1 c q t1 d W h2 h3 hq m1.2.1 hcs (by omega)
  obtain ⟨x2, y2, t2, e2⟩ : ∃ x y t, order2 lt d y1 c t1 = (x, y, t) := ⟨_, _, _, rfl⟩
  rw [e2] at m2 ⊢
  simp only [e2] at k2
  simp only at m2 ⊢
  have m3 := order2_mem (lt := lt) d x1 x2 t2 size m1.1 m2.1
  have k3 := fun W h2 h3 => order2_any hS x1 x2 q t2 d W h2 h3 hq m1.1 m2.1 (by omega)
  obtain ⟨x3, y3, t3, e3⟩ : ∃ x y t, order2 lt d x1 x2 t2 = (x, y, t) := ⟨_, _, _, rfl⟩
  rw [e3] at m3 ⊢
  simp only [e3] at k3
  simp only at m3 ⊢
  have c0 := v1.dt.c0
  have c1 := v1.dt.c1
  have hd := v1.dt
  have HK := hide (And.intro k1 (And.intro k2 k3))
  have HD := hide (And.intro hd o1)
  have hne : w.heap.size ≠ q := by omega
  clear hv hc v1 o1 n1 k1 k2 k3 hS hd e1 e2 e3
  go_enter Ybaf.func57, Ybaf.ntmps57
  go_wp2_with fail
  refine HK.out.1.mono ?_
  rintro e w2 ⟨rfl, v2, n2, o2⟩
  have d2 := HD.out.1.ot o2 hne
  have p2 := HD.out.2.trans o2
  have c2 := d2.c0
  have c3 := d2.c1
  clear c0 c1 o2
  go_wp2_with fail
  refine (HK.out.2.1 _ v2 n2).mono ?_
  rintro e w3 ⟨rfl, v3, n3, o3⟩
  have d3 := d2.ot o3 hne
  have p3 := p2.trans o3
  have c4 := d3.c0
  have c5 := d3.c1
  clear c2 c3 o3 v2 n2 d2 p2
  go_wp2_with fail
  refine (HK.out.2.2 _ v3 n3).mono ?_
  rintro e w4 ⟨rfl, v4, n4, o4⟩
  have p4 := p3.trans o4
  clear c4 c5 o4 v3 n3 d3 p3
  go_wp2_with fail
  go_ret
  exact ⟨rfl, v4, n4, p4⟩

set_option maxHeartbeats 1000000 in
set_option maxRecDepth 100000 in
theorem adj_any (hS : Srt blk off size B lt l0 l1 sf s0 s1 Cx) (a q s : Nat) (d : Array Pt) (w : World) (hv : Sv blk off size B Cx w d) (hc : Cn w q s) (hq : B ≤ q) (h1 : 1 ≤ a) (ha : a + 1 < size) (hs : s < 900) :
    Calls Ybaf.prog 56 #[.agg #[.func (.func 22) #[] #[l0, l1], .func (.func sf) #[] #[s0, s1]], .int .i64 a, .pointer (some ⟨q, 0, none⟩)] w fun e w' =>
      e = .returned (.int .i64 (medianAdjacent lt d a s).1) ∧ Sv blk off size B Cx w' d ∧ Cn w' q (medianAdjacent lt d a s).2 ∧ Ot (fun k => k = q) w w' := by
  have v1 := Ss.new hS hv
  have o1 : Ot (fun k => k = q) w (w.alloc (.cells #[.func (.func 22) #[] #[l0, l1], .func (.func sf) #[] #[s0, s1]] 72)) := (Ot.refl _ _).alloc _
  have n1 := hc.ot ((Ot.refl (fun _ => False) w).alloc (.cells #[.func (.func 22) #[] #[l0, l1], .func (.func sf) #[] #[s0, s1]] 72)) (fun h => h)
  unfold medianAdjacent
  have hsm := hS.small
  have k1 := median_any hS (a - 1) a (a + 1) q s d _ v1.sv n1 hq (by omega) (by omega) (by omega) hs
  rw [show (((a - 1 : Nat) : Int)) = (a : Int) - 1 by omega, show (((a + 1 : Nat) : Int)) = (a : Int) + 1 by omega] at k1
  have c0 := v1.dt.c0
  have c1 := v1.dt.c1
  have HK := hide (And.intro k1 o1)
  clear hv hc v1 o1 n1 k1 hS
  have hai : (a : Int) + 1 < size := by omega
  go_enter Ybaf.func56, Ybaf.ntmps56
  go_wp2_with fail
  refine HK.out.1.mono ?_
  rintro e w2 ⟨rfl, v2, n2, o2⟩
  have p2 := HK.out.2.trans o2
  clear c0 c1 o2
  go_wp2_with fail
  go_ret
  exact ⟨rfl, v2, n2, p2⟩
end

end Go.Proofs.YbulkdjggFmt
