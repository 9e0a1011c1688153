import Derived.Test.YbulkdjfsDoorO
import Derived.Deep.MidRow
namespace Go.Proofs.YbulkdjfsDoor
open Go.RowKit
open Fl (R Out Nan Same)
attribute [local go_sem] run_store_flt

/-- A shedder in block b: its cells. -/
structure At (w : World) (b : Nat) (k s : Nat) (mf : Int) (k3 s3 k5 s5 cr : Nat) (f0 f1 m0 m1 lt : Int) (C : Array Value) : Prop where
  blk : b < w.heap.size
  c0 : w.cell? ⟨b, 0, none⟩ = some (.int .i64 k)
  c1 : w.cell? ⟨b, 1, none⟩ = some (.float .f64 s)
  c2 : w.cell? ⟨b, 2, none⟩ = some (.int .i64 mf)
  c3 : w.cell? ⟨b, 3, none⟩ = some (.int .i64 k3)
  c4 : w.cell? ⟨b, 4, none⟩ = some (.float .f64 s3)
  c5 : w.cell? ⟨b, 5, none⟩ = some (.int .i64 k5)
  c6 : w.cell? ⟨b, 6, none⟩ = some (.float .f64 s5)
  c7 : w.cell? ⟨b, 7, none⟩ = some (.float .f64 cr)
  c8 : w.cell? ⟨b, 8, none⟩ = some (.int .u64 f0)
  c9 : w.cell? ⟨b, 9, none⟩ = some (.int .i64 f1)
  c10 : w.cell? ⟨b, 10, none⟩ = some (.pointer none)
  c11 : w.cell? ⟨b, 11, none⟩ = some (.int .u64 m0)
  c12 : w.cell? ⟨b, 12, none⟩ = some (.int .i64 m1)
  c13 : w.cell? ⟨b, 13, none⟩ = some (.pointer none)
  c14 : w.cell? ⟨b, 14, none⟩ = some (.int .i64 lt)
  dr : ∀ i, i < 1289 → w.cell? ⟨b, 15 + i, none⟩ = C[i]?

theorem At.below {w w' : World} {b : Nat} {k s : Nat} {mf : Int} {k3 s3 k5 s5 cr : Nat} {f0 f1 m0 m1 lt : Int} {C : Array Value} (h : At w b k s mf k3 s3 k5 s5 cr f0 f1 m0 m1 lt C) (hb : Below w.heap.size w w') : At w' b k s mf k3 s3 k5 s5 cr f0 f1 m0 m1 lt C := by
  have kk := kept_below hb h.blk
  exact ⟨Nat.lt_of_lt_of_le h.blk hb.size, (kk _).trans h.c0, (kk _).trans h.c1, (kk _).trans h.c2, (kk _).trans h.c3, (kk _).trans h.c4, (kk _).trans h.c5, (kk _).trans h.c6, (kk _).trans h.c7, (kk _).trans h.c8, (kk _).trans h.c9, (kk _).trans h.c10, (kk _).trans h.c11, (kk _).trans h.c12, (kk _).trans h.c13, (kk _).trans h.c14, fun i hi => (kk _).trans (h.dr i hi)⟩

/-- The demand, read whole out of a shedder, in a region that draws its order. -/
theorem load41at {ops : Array Oper} {S : World → Prop} {op : Oper} {a : Act} {x : Operand} (ho : op.op = .load 41 x) (hg : Region.wanted op (yielded ops a.tmps) = true) (b : Nat) (hx : a.eval x = .pointer (some ⟨b, 15, none⟩)) (C : Array Value) (hC : C.size = 1289)
    (hS : ∀ W, S W → ∀ i, i < 1289 → W.cell? ⟨b, 15 + i, none⟩ = C[i]?) : YieldsIf Ybad.prog ops S op (.agg C) a := by
  have hl : C.toList.length = 1289 := by simpa using hC
  have := yieldsIf_load_mid (P := Ybad.prog) (S := S) hg 41 x ho b 15 hx C.toList _ (fun W h j v hv => by
    have hj : j < 1289 := by
      have := (List.getElem?_eq_some_iff.1 hv).1
      omega
    rw [hS W h j hj]
    simpa using hv) hu41 (by as_aux_lemma => kernel_rfl) (by rw [hl]; kernel_rfl)
  simpa using this

theorem guard41 (x y : Operand) (C : Array Value) (w : World) : (eqGuard .eql 41 x y (.agg C) (.agg C)).run Ybad.prog w = .ok () w := by kernel_rfl

/-- The demands are held against each other. -/
theorem eql41 {ops : Array Oper} {S : World → Prop} {op : Oper} {a : Act} {x y : Operand} {rt : TypeId} (ho : op.op = .binOp .eql 41 x y rt) (hg : Region.wanted op (yielded ops a.tmps) = true) (C : Array Value) (ta tb : Int) (hC : DemOK C ta tb)
    (hx : a.eval x = .agg C) (hy : a.eval y = .agg C) : YieldsIf Ybad.prog ops S op (.bool true) a :=
  .inl ⟨hg, fun W _ => by
    have h1 := guard41 x y C W
    have h2 := run_eq_dem C ta tb hC W
    unfold execOp
    simp only [ho, hx, hy, Sem.run_bind, h1, h2, Result.andThen_ok, Sem.run_pure]⟩

set_option maxHeartbeats 3200000 in
set_option maxRecDepth 100000 in
theorem same_any (B B' k s : Nat) (mf : Int) (k3 s3 k5 s5 cr : Nat) (f0 f1 m0 m1 lt ta tb : Int) (C : Array Value) (w : World) (hC : DemOK C ta tb)
    (h : At w B k s mf k3 s3 k5 s5 cr f0 f1 m0 m1 lt C) (h' : At w B' k s mf k3 s3 k5 s5 cr f0 f1 m0 m1 lt C) :
    Calls Ybad.prog 12 #[.pointer (some ⟨B, 0, none⟩), .pointer (some ⟨B', 0, none⟩)] w fun e w' => e = .returned (.bool true) ∧ Below w.heap.size w w' := by
  have HH := hide h
  have HH' := hide h'
  have hCs := hC.size
  have HC := hide hC
  clear h h' hC
  go_enter Ybad.func12, Ybad.ntmps12
  go_upto_region 1 with (fail)
  refine wp_region_held_drew (S := fun w' => Below w.heap.size w w') (by as_aux_lemma => kernel_rfl) (Below.refl _ _).drew (fun hHeld => ?_)
  refine takeL 0 (.pointer (some ⟨B, 0, none⟩)) rfl (by as_aux_lemma => kernel_rfl) (by as_aux_lemma => kernel_rfl) (by as_aux_lemma => kernel_rfl) (fun _ _ _ h => h) hHeld ?_ ?_
  · exact Or.inl ⟨by rfl, fun W hSw => by clear hSw; go_simp⟩
  simp only [Act.put, List.setIfInBounds_toArray, List.set_cons_zero, List.set_cons_succ]
  refine takeL 1 (.pointer (some ⟨B, 0, none⟩)) rfl (by as_aux_lemma => kernel_rfl) (by as_aux_lemma => kernel_rfl) (by as_aux_lemma => kernel_rfl) (fun _ _ _ h => h) hHeld ?_ ?_
  · exact Or.inl ⟨by rfl, fun W hSw => by clear hSw; go_simp⟩
  simp only [Act.put, List.setIfInBounds_toArray, List.set_cons_zero, List.set_cons_succ]
  refine takeL 2 (.pointer (some ⟨B, 0, none⟩)) rfl (by as_aux_lemma => kernel_rfl) (by as_aux_lemma => kernel_rfl) (by as_aux_lemma => kernel_rfl) (fun _ _ _ h => h) hHeld ?_ ?_
  · exact Or.inl ⟨by rfl, fun W hSw => by clear hSw; go_simp⟩
  simp only [Act.put, List.setIfInBounds_toArray, List.set_cons_zero, List.set_cons_succ]
  refine takeL 3 (.agg #[.int .i64 k, .float .f64 s]) rfl (by as_aux_lemma => kernel_rfl) (by as_aux_lemma => kernel_rfl) (by as_aux_lemma => kernel_rfl) (fun _ _ _ h => h) hHeld ?_ ?_
  · exact Or.inl ⟨by rfl, fun W hSw => by (have g := HH.out.below hSw; have ec0 := g.c0; have ec1 := g.c1; clear g hSw; go_simp)⟩
  simp only [Act.put, List.setIfInBounds_toArray, List.set_cons_zero, List.set_cons_succ]
  refine takeL 4 (.pointer (some ⟨B', 0, none⟩)) rfl (by as_aux_lemma => kernel_rfl) (by as_aux_lemma => kernel_rfl) (by as_aux_lemma => kernel_rfl) (fun _ _ _ h => h) hHeld ?_ ?_
  · exact Or.inl ⟨by rfl, fun W hSw => by clear hSw; go_simp⟩
  simp only [Act.put, List.setIfInBounds_toArray, List.set_cons_zero, List.set_cons_succ]
  refine takeL 5 (.pointer (some ⟨B', 0, none⟩)) rfl (by as_aux_lemma => kernel_rfl) (by as_aux_lemma => kernel_rfl) (by as_aux_lemma => kernel_rfl) (fun _ _ _ h => h) hHeld ?_ ?_
  · exact Or.inl ⟨by rfl, fun W hSw => by clear hSw; go_simp⟩
  simp only [Act.put, List.setIfInBounds_toArray, List.set_cons_zero, List.set_cons_succ]
  refine takeL 6 (.pointer (some ⟨B', 0, none⟩)) rfl (by as_aux_lemma => kernel_rfl) (by as_aux_lemma => kernel_rfl) (by as_aux_lemma => kernel_rfl) (fun _ _ _ h => h) hHeld ?_ ?_
  · exact Or.inl ⟨by rfl, fun W hSw => by clear hSw; go_simp⟩
  simp only [Act.put, List.setIfInBounds_toArray, List.set_cons_zero, List.set_cons_succ]
  refine takeL 7 (.agg #[.int .i64 k, .float .f64 s]) rfl (by as_aux_lemma => kernel_rfl) (by as_aux_lemma => kernel_rfl) (by as_aux_lemma => kernel_rfl) (fun _ _ _ h => h) hHeld ?_ ?_
  · exact Or.inl ⟨by rfl, fun W hSw => by (have g := HH'.out.below hSw; have ec0 := g.c0; have ec1 := g.c1; clear g hSw; go_simp)⟩
  simp only [Act.put, List.setIfInBounds_toArray, List.set_cons_zero, List.set_cons_succ]
  refine oneL 8 rfl (by as_aux_lemma => kernel_rfl) (fun K hK => ?_)
  go_simp
  refine (ceq_same k s _).mono ?_
  rintro e w1 ⟨rfl, hb⟩
  go_wp2_with fail
  refine hK.out _ _ (below_next hHeld hb) (fun hHeld2 => ?_)
  clear hHeld hK
  have hHeld := hHeld2
  clear hHeld2 hb
  refine takeL 9 (.bool true) rfl (by as_aux_lemma => kernel_rfl) (by as_aux_lemma => kernel_rfl) (by as_aux_lemma => kernel_rfl) (fun _ _ _ h => h) hHeld ?_ ?_
  · exact Or.inl ⟨by rfl, fun W hSw => by clear hSw; go_simp⟩
  simp only [Act.put, List.setIfInBounds_toArray, List.set_cons_zero, List.set_cons_succ]
  refine takeL 10 (.pointer (some ⟨B, 0, none⟩)) rfl (by as_aux_lemma => kernel_rfl) (by as_aux_lemma => kernel_rfl) (by as_aux_lemma => kernel_rfl) (fun _ _ _ h => h) hHeld ?_ ?_
  · exact Or.inl ⟨by rfl, fun W hSw => by clear hSw; go_simp⟩
  simp only [Act.put, List.setIfInBounds_toArray, List.set_cons_zero, List.set_cons_succ]
  refine takeL 11 (.pointer (some ⟨B, 0, none⟩)) rfl (by as_aux_lemma => kernel_rfl) (by as_aux_lemma => kernel_rfl) (by as_aux_lemma => kernel_rfl) (fun _ _ _ h => h) hHeld ?_ ?_
  · exact Or.inl ⟨by rfl, fun W hSw => by clear hSw; go_simp⟩
  simp only [Act.put, List.setIfInBounds_toArray, List.set_cons_zero, List.set_cons_succ]
  refine takeL 12 (.pointer (some ⟨B, 2, none⟩)) rfl (by as_aux_lemma => kernel_rfl) (by as_aux_lemma => kernel_rfl) (by as_aux_lemma => kernel_rfl) (fun _ _ _ h => h) hHeld ?_ ?_
  · exact Or.inl ⟨by rfl, fun W hSw => by clear hSw; go_simp⟩
  simp only [Act.put, List.setIfInBounds_toArray, List.set_cons_zero, List.set_cons_succ]
  refine takeL 13 (.int .i64 mf) rfl (by as_aux_lemma => kernel_rfl) (by as_aux_lemma => kernel_rfl) (by as_aux_lemma => kernel_rfl) (fun _ _ _ h => h) hHeld ?_ ?_
  · exact Or.inl ⟨by rfl, fun W hSw => by (have g := HH.out.below hSw; have ec2 := g.c2; clear g hSw; go_simp)⟩
  simp only [Act.put, List.setIfInBounds_toArray, List.set_cons_zero, List.set_cons_succ]
  refine takeL 14 (.pointer (some ⟨B', 0, none⟩)) rfl (by as_aux_lemma => kernel_rfl) (by as_aux_lemma => kernel_rfl) (by as_aux_lemma => kernel_rfl) (fun _ _ _ h => h) hHeld ?_ ?_
  · exact Or.inl ⟨by rfl, fun W hSw => by clear hSw; go_simp⟩
  simp only [Act.put, List.setIfInBounds_toArray, List.set_cons_zero, List.set_cons_succ]
  refine takeL 15 (.pointer (some ⟨B', 0, none⟩)) rfl (by as_aux_lemma => kernel_rfl) (by as_aux_lemma => kernel_rfl) (by as_aux_lemma => kernel_rfl) (fun _ _ _ h => h) hHeld ?_ ?_
  · exact Or.inl ⟨by rfl, fun W hSw => by clear hSw; go_simp⟩
  simp only [Act.put, List.setIfInBounds_toArray, List.set_cons_zero, List.set_cons_succ]
  refine takeL 16 (.pointer (some ⟨B', 2, none⟩)) rfl (by as_aux_lemma => kernel_rfl) (by as_aux_lemma => kernel_rfl) (by as_aux_lemma => kernel_rfl) (fun _ _ _ h => h) hHeld ?_ ?_
  · exact Or.inl ⟨by rfl, fun W hSw => by clear hSw; go_simp⟩
  simp only [Act.put, List.setIfInBounds_toArray, List.set_cons_zero, List.set_cons_succ]
  refine takeL 17 (.int .i64 mf) rfl (by as_aux_lemma => kernel_rfl) (by as_aux_lemma => kernel_rfl) (by as_aux_lemma => kernel_rfl) (fun _ _ _ h => h) hHeld ?_ ?_
  · exact Or.inl ⟨by rfl, fun W hSw => by (have g := HH'.out.below hSw; have ec2 := g.c2; clear g hSw; go_simp)⟩
  simp only [Act.put, List.setIfInBounds_toArray, List.set_cons_zero, List.set_cons_succ]
  refine takeL 18 (.bool true) rfl (by as_aux_lemma => kernel_rfl) (by as_aux_lemma => kernel_rfl) (by as_aux_lemma => kernel_rfl) (fun _ _ _ h => h) hHeld ?_ ?_
  · exact Or.inl ⟨by rfl, fun W hSw => by clear hSw; go_simp⟩
  simp only [Act.put, List.setIfInBounds_toArray, List.set_cons_zero, List.set_cons_succ]
  refine takeL 19 (.bool true) rfl (by as_aux_lemma => kernel_rfl) (by as_aux_lemma => kernel_rfl) (by as_aux_lemma => kernel_rfl) (fun _ _ _ h => h) hHeld ?_ ?_
  · exact Or.inl ⟨by rfl, fun W hSw => by clear hSw; go_simp⟩
  simp only [Act.put, List.setIfInBounds_toArray, List.set_cons_zero, List.set_cons_succ]
  refine takeL 20 (.bool true) rfl (by as_aux_lemma => kernel_rfl) (by as_aux_lemma => kernel_rfl) (by as_aux_lemma => kernel_rfl) (fun _ _ _ h => h) hHeld ?_ ?_
  · exact Or.inl ⟨by rfl, fun W hSw => by clear hSw; go_simp⟩
  simp only [Act.put, List.setIfInBounds_toArray, List.set_cons_zero, List.set_cons_succ]
  refine takeL 21 (.pointer (some ⟨B, 0, none⟩)) rfl (by as_aux_lemma => kernel_rfl) (by as_aux_lemma => kernel_rfl) (by as_aux_lemma => kernel_rfl) (fun _ _ _ h => h) hHeld ?_ ?_
  · exact Or.inl ⟨by rfl, fun W hSw => by clear hSw; go_simp⟩
  simp only [Act.put, List.setIfInBounds_toArray, List.set_cons_zero, List.set_cons_succ]
  refine takeL 22 (.pointer (some ⟨B, 0, none⟩)) rfl (by as_aux_lemma => kernel_rfl) (by as_aux_lemma => kernel_rfl) (by as_aux_lemma => kernel_rfl) (fun _ _ _ h => h) hHeld ?_ ?_
  · exact Or.inl ⟨by rfl, fun W hSw => by clear hSw; go_simp⟩
  simp only [Act.put, List.setIfInBounds_toArray, List.set_cons_zero, List.set_cons_succ]
  refine takeL 23 (.pointer (some ⟨B, 3, none⟩)) rfl (by as_aux_lemma => kernel_rfl) (by as_aux_lemma => kernel_rfl) (by as_aux_lemma => kernel_rfl) (fun _ _ _ h => h) hHeld ?_ ?_
  · exact Or.inl ⟨by rfl, fun W hSw => by clear hSw; go_simp⟩
  simp only [Act.put, List.setIfInBounds_toArray, List.set_cons_zero, List.set_cons_succ]
  refine takeL 24 (.agg #[.int .i64 k3, .float .f64 s3]) rfl (by as_aux_lemma => kernel_rfl) (by as_aux_lemma => kernel_rfl) (by as_aux_lemma => kernel_rfl) (fun _ _ _ h => h) hHeld ?_ ?_
  · exact Or.inl ⟨by rfl, fun W hSw => by (have g := HH.out.below hSw; have ec3 := g.c3; have ec4 := g.c4; clear g hSw; go_simp)⟩
  simp only [Act.put, List.setIfInBounds_toArray, List.set_cons_zero, List.set_cons_succ]
  refine takeL 25 (.pointer (some ⟨B', 0, none⟩)) rfl (by as_aux_lemma => kernel_rfl) (by as_aux_lemma => kernel_rfl) (by as_aux_lemma => kernel_rfl) (fun _ _ _ h => h) hHeld ?_ ?_
  · exact Or.inl ⟨by rfl, fun W hSw => by clear hSw; go_simp⟩
  simp only [Act.put, List.setIfInBounds_toArray, List.set_cons_zero, List.set_cons_succ]
  refine takeL 26 (.pointer (some ⟨B', 0, none⟩)) rfl (by as_aux_lemma => kernel_rfl) (by as_aux_lemma => kernel_rfl) (by as_aux_lemma => kernel_rfl) (fun _ _ _ h => h) hHeld ?_ ?_
  · exact Or.inl ⟨by rfl, fun W hSw => by clear hSw; go_simp⟩
  simp only [Act.put, List.setIfInBounds_toArray, List.set_cons_zero, List.set_cons_succ]
  refine takeL 27 (.pointer (some ⟨B', 3, none⟩)) rfl (by as_aux_lemma => kernel_rfl) (by as_aux_lemma => kernel_rfl) (by as_aux_lemma => kernel_rfl) (fun _ _ _ h => h) hHeld ?_ ?_
  · exact Or.inl ⟨by rfl, fun W hSw => by clear hSw; go_simp⟩
  simp only [Act.put, List.setIfInBounds_toArray, List.set_cons_zero, List.set_cons_succ]
  refine takeL 28 (.agg #[.int .i64 k3, .float .f64 s3]) rfl (by as_aux_lemma => kernel_rfl) (by as_aux_lemma => kernel_rfl) (by as_aux_lemma => kernel_rfl) (fun _ _ _ h => h) hHeld ?_ ?_
  · exact Or.inl ⟨by rfl, fun W hSw => by (have g := HH'.out.below hSw; have ec3 := g.c3; have ec4 := g.c4; clear g hSw; go_simp)⟩
  simp only [Act.put, List.setIfInBounds_toArray, List.set_cons_zero, List.set_cons_succ]
  refine oneL 29 rfl (by as_aux_lemma => kernel_rfl) (fun K hK => ?_)
  go_simp
  refine (ceq_same k3 s3 _).mono ?_
  rintro e w2 ⟨rfl, hb⟩
  go_wp2_with fail
  refine hK.out _ _ (below_next hHeld hb) (fun hHeld2 => ?_)
  clear hHeld hK
  have hHeld := hHeld2
  clear hHeld2 hb
  refine takeL 30 (.bool true) rfl (by as_aux_lemma => kernel_rfl) (by as_aux_lemma => kernel_rfl) (by as_aux_lemma => kernel_rfl) (fun _ _ _ h => h) hHeld ?_ ?_
  · exact Or.inl ⟨by rfl, fun W hSw => by clear hSw; go_simp⟩
  simp only [Act.put, List.setIfInBounds_toArray, List.set_cons_zero, List.set_cons_succ]
  refine takeL 31 (.bool true) rfl (by as_aux_lemma => kernel_rfl) (by as_aux_lemma => kernel_rfl) (by as_aux_lemma => kernel_rfl) (fun _ _ _ h => h) hHeld ?_ ?_
  · exact Or.inl ⟨by rfl, fun W hSw => by clear hSw; go_simp⟩
  simp only [Act.put, List.setIfInBounds_toArray, List.set_cons_zero, List.set_cons_succ]
  refine takeL 32 (.pointer (some ⟨B, 0, none⟩)) rfl (by as_aux_lemma => kernel_rfl) (by as_aux_lemma => kernel_rfl) (by as_aux_lemma => kernel_rfl) (fun _ _ _ h => h) hHeld ?_ ?_
  · exact Or.inl ⟨by rfl, fun W hSw => by clear hSw; go_simp⟩
  simp only [Act.put, List.setIfInBounds_toArray, List.set_cons_zero, List.set_cons_succ]
  refine takeL 33 (.pointer (some ⟨B, 0, none⟩)) rfl (by as_aux_lemma => kernel_rfl) (by as_aux_lemma => kernel_rfl) (by as_aux_lemma => kernel_rfl) (fun _ _ _ h => h) hHeld ?_ ?_
  · exact Or.inl ⟨by rfl, fun W hSw => by clear hSw; go_simp⟩
  simp only [Act.put, List.setIfInBounds_toArray, List.set_cons_zero, List.set_cons_succ]
  refine takeL 34 (.pointer (some ⟨B, 5, none⟩)) rfl (by as_aux_lemma => kernel_rfl) (by as_aux_lemma => kernel_rfl) (by as_aux_lemma => kernel_rfl) (fun _ _ _ h => h) hHeld ?_ ?_
  · exact Or.inl ⟨by rfl, fun W hSw => by clear hSw; go_simp⟩
  simp only [Act.put, List.setIfInBounds_toArray, List.set_cons_zero, List.set_cons_succ]
  refine takeL 35 (.agg #[.int .i64 k5, .float .f64 s5]) rfl (by as_aux_lemma => kernel_rfl) (by as_aux_lemma => kernel_rfl) (by as_aux_lemma => kernel_rfl) (fun _ _ _ h => h) hHeld ?_ ?_
  · exact Or.inl ⟨by rfl, fun W hSw => by (have g := HH.out.below hSw; have ec5 := g.c5; have ec6 := g.c6; clear g hSw; go_simp)⟩
  simp only [Act.put, List.setIfInBounds_toArray, List.set_cons_zero, List.set_cons_succ]
  refine takeL 36 (.pointer (some ⟨B', 0, none⟩)) rfl (by as_aux_lemma => kernel_rfl) (by as_aux_lemma => kernel_rfl) (by as_aux_lemma => kernel_rfl) (fun _ _ _ h => h) hHeld ?_ ?_
  · exact Or.inl ⟨by rfl, fun W hSw => by clear hSw; go_simp⟩
  simp only [Act.put, List.setIfInBounds_toArray, List.set_cons_zero, List.set_cons_succ]
  refine takeL 37 (.pointer (some ⟨B', 0, none⟩)) rfl (by as_aux_lemma => kernel_rfl) (by as_aux_lemma => kernel_rfl) (by as_aux_lemma => kernel_rfl) (fun _ _ _ h => h) hHeld ?_ ?_
  · exact Or.inl ⟨by rfl, fun W hSw => by clear hSw; go_simp⟩
  simp only [Act.put, List.setIfInBounds_toArray, List.set_cons_zero, List.set_cons_succ]
  refine takeL 38 (.pointer (some ⟨B', 5, none⟩)) rfl (by as_aux_lemma => kernel_rfl) (by as_aux_lemma => kernel_rfl) (by as_aux_lemma => kernel_rfl) (fun _ _ _ h => h) hHeld ?_ ?_
  · exact Or.inl ⟨by rfl, fun W hSw => by clear hSw; go_simp⟩
  simp only [Act.put, List.setIfInBounds_toArray, List.set_cons_zero, List.set_cons_succ]
  refine takeL 39 (.agg #[.int .i64 k5, .float .f64 s5]) rfl (by as_aux_lemma => kernel_rfl) (by as_aux_lemma => kernel_rfl) (by as_aux_lemma => kernel_rfl) (fun _ _ _ h => h) hHeld ?_ ?_
  · exact Or.inl ⟨by rfl, fun W hSw => by (have g := HH'.out.below hSw; have ec5 := g.c5; have ec6 := g.c6; clear g hSw; go_simp)⟩
  simp only [Act.put, List.setIfInBounds_toArray, List.set_cons_zero, List.set_cons_succ]
  refine oneL 40 rfl (by as_aux_lemma => kernel_rfl) (fun K hK => ?_)
  go_simp
  refine (ceq_same k5 s5 _).mono ?_
  rintro e w3 ⟨rfl, hb⟩
  go_wp2_with fail
  refine hK.out _ _ (below_next hHeld hb) (fun hHeld2 => ?_)
  clear hHeld hK
  have hHeld := hHeld2
  clear hHeld2 hb
  refine takeL 41 (.bool true) rfl (by as_aux_lemma => kernel_rfl) (by as_aux_lemma => kernel_rfl) (by as_aux_lemma => kernel_rfl) (fun _ _ _ h => h) hHeld ?_ ?_
  · exact Or.inl ⟨by rfl, fun W hSw => by clear hSw; go_simp⟩
  simp only [Act.put, List.setIfInBounds_toArray, List.set_cons_zero, List.set_cons_succ]
  refine takeL 42 (.bool true) rfl (by as_aux_lemma => kernel_rfl) (by as_aux_lemma => kernel_rfl) (by as_aux_lemma => kernel_rfl) (fun _ _ _ h => h) hHeld ?_ ?_
  · exact Or.inl ⟨by rfl, fun W hSw => by clear hSw; go_simp⟩
  simp only [Act.put, List.setIfInBounds_toArray, List.set_cons_zero, List.set_cons_succ]
  refine takeL 43 (.pointer (some ⟨B, 0, none⟩)) rfl (by as_aux_lemma => kernel_rfl) (by as_aux_lemma => kernel_rfl) (by as_aux_lemma => kernel_rfl) (fun _ _ _ h => h) hHeld ?_ ?_
  · exact Or.inl ⟨by rfl, fun W hSw => by clear hSw; go_simp⟩
  simp only [Act.put, List.setIfInBounds_toArray, List.set_cons_zero, List.set_cons_succ]
  refine takeL 44 (.pointer (some ⟨B, 0, none⟩)) rfl (by as_aux_lemma => kernel_rfl) (by as_aux_lemma => kernel_rfl) (by as_aux_lemma => kernel_rfl) (fun _ _ _ h => h) hHeld ?_ ?_
  · exact Or.inl ⟨by rfl, fun W hSw => by clear hSw; go_simp⟩
  simp only [Act.put, List.setIfInBounds_toArray, List.set_cons_zero, List.set_cons_succ]
  refine takeL 45 (.pointer (some ⟨B, 7, none⟩)) rfl (by as_aux_lemma => kernel_rfl) (by as_aux_lemma => kernel_rfl) (by as_aux_lemma => kernel_rfl) (fun _ _ _ h => h) hHeld ?_ ?_
  · exact Or.inl ⟨by rfl, fun W hSw => by clear hSw; go_simp⟩
  simp only [Act.put, List.setIfInBounds_toArray, List.set_cons_zero, List.set_cons_succ]
  refine takeL 46 (.float .f64 cr) rfl (by as_aux_lemma => kernel_rfl) (by as_aux_lemma => kernel_rfl) (by as_aux_lemma => kernel_rfl) (fun _ _ _ h => h) hHeld ?_ ?_
  · exact Or.inl ⟨by rfl, fun W hSw => by (have g := HH.out.below hSw; have ec7 := g.c7; clear g hSw; go_simp)⟩
  simp only [Act.put, List.setIfInBounds_toArray, List.set_cons_zero, List.set_cons_succ]
  refine takeL 47 (.pointer (some ⟨B', 0, none⟩)) rfl (by as_aux_lemma => kernel_rfl) (by as_aux_lemma => kernel_rfl) (by as_aux_lemma => kernel_rfl) (fun _ _ _ h => h) hHeld ?_ ?_
  · exact Or.inl ⟨by rfl, fun W hSw => by clear hSw; go_simp⟩
  simp only [Act.put, List.setIfInBounds_toArray, List.set_cons_zero, List.set_cons_succ]
  refine takeL 48 (.pointer (some ⟨B', 0, none⟩)) rfl (by as_aux_lemma => kernel_rfl) (by as_aux_lemma => kernel_rfl) (by as_aux_lemma => kernel_rfl) (fun _ _ _ h => h) hHeld ?_ ?_
  · exact Or.inl ⟨by rfl, fun W hSw => by clear hSw; go_simp⟩
  simp only [Act.put, List.setIfInBounds_toArray, List.set_cons_zero, List.set_cons_succ]
  refine takeL 49 (.pointer (some ⟨B', 7, none⟩)) rfl (by as_aux_lemma => kernel_rfl) (by as_aux_lemma => kernel_rfl) (by as_aux_lemma => kernel_rfl) (fun _ _ _ h => h) hHeld ?_ ?_
  · exact Or.inl ⟨by rfl, fun W hSw => by clear hSw; go_simp⟩
  simp only [Act.put, List.setIfInBounds_toArray, List.set_cons_zero, List.set_cons_succ]
  refine takeL 50 (.float .f64 cr) rfl (by as_aux_lemma => kernel_rfl) (by as_aux_lemma => kernel_rfl) (by as_aux_lemma => kernel_rfl) (fun _ _ _ h => h) hHeld ?_ ?_
  · exact Or.inl ⟨by rfl, fun W hSw => by (have g := HH'.out.below hSw; have ec7 := g.c7; clear g hSw; go_simp)⟩
  simp only [Act.put, List.setIfInBounds_toArray, List.set_cons_zero, List.set_cons_succ]
  refine oneL 51 rfl (by as_aux_lemma => kernel_rfl) (fun K hK => ?_)
  go_simp
  refine (feq_same cr _).mono ?_
  rintro e w4 ⟨rfl, rfl⟩
  go_wp2_with fail
  refine hK.out _ _ hHeld (fun hHeld2 => ?_)
  clear hHeld hK
  have hHeld := hHeld2
  clear hHeld2
  refine takeL 52 (.bool true) rfl (by as_aux_lemma => kernel_rfl) (by as_aux_lemma => kernel_rfl) (by as_aux_lemma => kernel_rfl) (fun _ _ _ h => h) hHeld ?_ ?_
  · exact Or.inl ⟨by rfl, fun W hSw => by clear hSw; go_simp⟩
  simp only [Act.put, List.setIfInBounds_toArray, List.set_cons_zero, List.set_cons_succ]
  refine takeL 53 (.bool true) rfl (by as_aux_lemma => kernel_rfl) (by as_aux_lemma => kernel_rfl) (by as_aux_lemma => kernel_rfl) (fun _ _ _ h => h) hHeld ?_ ?_
  · exact Or.inl ⟨by rfl, fun W hSw => by clear hSw; go_simp⟩
  simp only [Act.put, List.setIfInBounds_toArray, List.set_cons_zero, List.set_cons_succ]
  refine takeL 54 (.pointer (some ⟨B, 0, none⟩)) rfl (by as_aux_lemma => kernel_rfl) (by as_aux_lemma => kernel_rfl) (by as_aux_lemma => kernel_rfl) (fun _ _ _ h => h) hHeld ?_ ?_
  · exact Or.inl ⟨by rfl, fun W hSw => by clear hSw; go_simp⟩
  simp only [Act.put, List.setIfInBounds_toArray, List.set_cons_zero, List.set_cons_succ]
  refine takeL 55 (.pointer (some ⟨B, 0, none⟩)) rfl (by as_aux_lemma => kernel_rfl) (by as_aux_lemma => kernel_rfl) (by as_aux_lemma => kernel_rfl) (fun _ _ _ h => h) hHeld ?_ ?_
  · exact Or.inl ⟨by rfl, fun W hSw => by clear hSw; go_simp⟩
  simp only [Act.put, List.setIfInBounds_toArray, List.set_cons_zero, List.set_cons_succ]
  refine takeL 56 (.pointer (some ⟨B, 8, none⟩)) rfl (by as_aux_lemma => kernel_rfl) (by as_aux_lemma => kernel_rfl) (by as_aux_lemma => kernel_rfl) (fun _ _ _ h => h) hHeld ?_ ?_
  · exact Or.inl ⟨by rfl, fun W hSw => by clear hSw; go_simp⟩
  simp only [Act.put, List.setIfInBounds_toArray, List.set_cons_zero, List.set_cons_succ]
  refine takeL 57 (.agg #[.int .u64 f0, .int .i64 f1, .pointer none]) rfl (by as_aux_lemma => kernel_rfl) (by as_aux_lemma => kernel_rfl) (by as_aux_lemma => kernel_rfl) (fun _ _ _ h => h) hHeld ?_ ?_
  · exact Or.inl ⟨by rfl, fun W hSw => by (have g := HH.out.below hSw; have ec8 := g.c8; have ec9 := g.c9; have ec10 := g.c10; clear g hSw; go_simp)⟩
  simp only [Act.put, List.setIfInBounds_toArray, List.set_cons_zero, List.set_cons_succ]
  refine takeL 58 (.pointer (some ⟨B', 0, none⟩)) rfl (by as_aux_lemma => kernel_rfl) (by as_aux_lemma => kernel_rfl) (by as_aux_lemma => kernel_rfl) (fun _ _ _ h => h) hHeld ?_ ?_
  · exact Or.inl ⟨by rfl, fun W hSw => by clear hSw; go_simp⟩
  simp only [Act.put, List.setIfInBounds_toArray, List.set_cons_zero, List.set_cons_succ]
  refine takeL 59 (.pointer (some ⟨B', 0, none⟩)) rfl (by as_aux_lemma => kernel_rfl) (by as_aux_lemma => kernel_rfl) (by as_aux_lemma => kernel_rfl) (fun _ _ _ h => h) hHeld ?_ ?_
  · exact Or.inl ⟨by rfl, fun W hSw => by clear hSw; go_simp⟩
  simp only [Act.put, List.setIfInBounds_toArray, List.set_cons_zero, List.set_cons_succ]
  refine takeL 60 (.pointer (some ⟨B', 8, none⟩)) rfl (by as_aux_lemma => kernel_rfl) (by as_aux_lemma => kernel_rfl) (by as_aux_lemma => kernel_rfl) (fun _ _ _ h => h) hHeld ?_ ?_
  · exact Or.inl ⟨by rfl, fun W hSw => by clear hSw; go_simp⟩
  simp only [Act.put, List.setIfInBounds_toArray, List.set_cons_zero, List.set_cons_succ]
  refine takeL 61 (.agg #[.int .u64 f0, .int .i64 f1, .pointer none]) rfl (by as_aux_lemma => kernel_rfl) (by as_aux_lemma => kernel_rfl) (by as_aux_lemma => kernel_rfl) (fun _ _ _ h => h) hHeld ?_ ?_
  · exact Or.inl ⟨by rfl, fun W hSw => by (have g := HH'.out.below hSw; have ec8 := g.c8; have ec9 := g.c9; have ec10 := g.c10; clear g hSw; go_simp)⟩
  simp only [Act.put, List.setIfInBounds_toArray, List.set_cons_zero, List.set_cons_succ]
  refine takeL 62 (.bool true) rfl (by as_aux_lemma => kernel_rfl) (by as_aux_lemma => kernel_rfl) (by as_aux_lemma => kernel_rfl) (fun _ _ _ h => h) hHeld ?_ ?_
  · exact Or.inl ⟨by rfl, fun W hSw => by (clear hSw; have q := eq_nil_ptr W; go_simp)⟩
  simp only [Act.put, List.setIfInBounds_toArray, List.set_cons_zero, List.set_cons_succ]
  refine takeL 63 (.bool true) rfl (by as_aux_lemma => kernel_rfl) (by as_aux_lemma => kernel_rfl) (by as_aux_lemma => kernel_rfl) (fun _ _ _ h => h) hHeld ?_ ?_
  · exact Or.inl ⟨by rfl, fun W hSw => by clear hSw; go_simp⟩
  simp only [Act.put, List.setIfInBounds_toArray, List.set_cons_zero, List.set_cons_succ]
  refine takeL 64 (.bool true) rfl (by as_aux_lemma => kernel_rfl) (by as_aux_lemma => kernel_rfl) (by as_aux_lemma => kernel_rfl) (fun _ _ _ h => h) hHeld ?_ ?_
  · exact Or.inl ⟨by rfl, fun W hSw => by clear hSw; go_simp⟩
  simp only [Act.put, List.setIfInBounds_toArray, List.set_cons_zero, List.set_cons_succ]
  refine takeL 65 (.pointer (some ⟨B, 0, none⟩)) rfl (by as_aux_lemma => kernel_rfl) (by as_aux_lemma => kernel_rfl) (by as_aux_lemma => kernel_rfl) (fun _ _ _ h => h) hHeld ?_ ?_
  · exact Or.inl ⟨by rfl, fun W hSw => by clear hSw; go_simp⟩
  simp only [Act.put, List.setIfInBounds_toArray, List.set_cons_zero, List.set_cons_succ]
  refine takeL 66 (.pointer (some ⟨B, 0, none⟩)) rfl (by as_aux_lemma => kernel_rfl) (by as_aux_lemma => kernel_rfl) (by as_aux_lemma => kernel_rfl) (fun _ _ _ h => h) hHeld ?_ ?_
  · exact Or.inl ⟨by rfl, fun W hSw => by clear hSw; go_simp⟩
  simp only [Act.put, List.setIfInBounds_toArray, List.set_cons_zero, List.set_cons_succ]
  refine takeL 67 (.pointer (some ⟨B, 11, none⟩)) rfl (by as_aux_lemma => kernel_rfl) (by as_aux_lemma => kernel_rfl) (by as_aux_lemma => kernel_rfl) (fun _ _ _ h => h) hHeld ?_ ?_
  · exact Or.inl ⟨by rfl, fun W hSw => by clear hSw; go_simp⟩
  simp only [Act.put, List.setIfInBounds_toArray, List.set_cons_zero, List.set_cons_succ]
  refine takeL 68 (.agg #[.int .u64 m0, .int .i64 m1, .pointer none]) rfl (by as_aux_lemma => kernel_rfl) (by as_aux_lemma => kernel_rfl) (by as_aux_lemma => kernel_rfl) (fun _ _ _ h => h) hHeld ?_ ?_
  · exact Or.inl ⟨by rfl, fun W hSw => by (have g := HH.out.below hSw; have ec11 := g.c11; have ec12 := g.c12; have ec13 := g.c13; clear g hSw; go_simp)⟩
  simp only [Act.put, List.setIfInBounds_toArray, List.set_cons_zero, List.set_cons_succ]
  refine takeL 69 (.pointer (some ⟨B', 0, none⟩)) rfl (by as_aux_lemma => kernel_rfl) (by as_aux_lemma => kernel_rfl) (by as_aux_lemma => kernel_rfl) (fun _ _ _ h => h) hHeld ?_ ?_
  · exact Or.inl ⟨by rfl, fun W hSw => by clear hSw; go_simp⟩
  simp only [Act.put, List.setIfInBounds_toArray, List.set_cons_zero, List.set_cons_succ]
  refine takeL 70 (.pointer (some ⟨B', 0, none⟩)) rfl (by as_aux_lemma => kernel_rfl) (by as_aux_lemma => kernel_rfl) (by as_aux_lemma => kernel_rfl) (fun _ _ _ h => h) hHeld ?_ ?_
  · exact Or.inl ⟨by rfl, fun W hSw => by clear hSw; go_simp⟩
  simp only [Act.put, List.setIfInBounds_toArray, List.set_cons_zero, List.set_cons_succ]
  refine takeL 71 (.pointer (some ⟨B', 11, none⟩)) rfl (by as_aux_lemma => kernel_rfl) (by as_aux_lemma => kernel_rfl) (by as_aux_lemma => kernel_rfl) (fun _ _ _ h => h) hHeld ?_ ?_
  · exact Or.inl ⟨by rfl, fun W hSw => by clear hSw; go_simp⟩
  simp only [Act.put, List.setIfInBounds_toArray, List.set_cons_zero, List.set_cons_succ]
  refine takeL 72 (.agg #[.int .u64 m0, .int .i64 m1, .pointer none]) rfl (by as_aux_lemma => kernel_rfl) (by as_aux_lemma => kernel_rfl) (by as_aux_lemma => kernel_rfl) (fun _ _ _ h => h) hHeld ?_ ?_
  · exact Or.inl ⟨by rfl, fun W hSw => by (have g := HH'.out.below hSw; have ec11 := g.c11; have ec12 := g.c12; have ec13 := g.c13; clear g hSw; go_simp)⟩
  simp only [Act.put, List.setIfInBounds_toArray, List.set_cons_zero, List.set_cons_succ]
  refine takeL 73 (.bool true) rfl (by as_aux_lemma => kernel_rfl) (by as_aux_lemma => kernel_rfl) (by as_aux_lemma => kernel_rfl) (fun _ _ _ h => h) hHeld ?_ ?_
  · exact Or.inl ⟨by rfl, fun W hSw => by (clear hSw; have q := eq_nil_ptr W; go_simp)⟩
  simp only [Act.put, List.setIfInBounds_toArray, List.set_cons_zero, List.set_cons_succ]
  refine takeL 74 (.bool true) rfl (by as_aux_lemma => kernel_rfl) (by as_aux_lemma => kernel_rfl) (by as_aux_lemma => kernel_rfl) (fun _ _ _ h => h) hHeld ?_ ?_
  · exact Or.inl ⟨by rfl, fun W hSw => by clear hSw; go_simp⟩
  simp only [Act.put, List.setIfInBounds_toArray, List.set_cons_zero, List.set_cons_succ]
  refine takeL 75 (.bool true) rfl (by as_aux_lemma => kernel_rfl) (by as_aux_lemma => kernel_rfl) (by as_aux_lemma => kernel_rfl) (fun _ _ _ h => h) hHeld ?_ ?_
  · exact Or.inl ⟨by rfl, fun W hSw => by clear hSw; go_simp⟩
  simp only [Act.put, List.setIfInBounds_toArray, List.set_cons_zero, List.set_cons_succ]
  refine takeL 76 (.pointer (some ⟨B, 0, none⟩)) rfl (by as_aux_lemma => kernel_rfl) (by as_aux_lemma => kernel_rfl) (by as_aux_lemma => kernel_rfl) (fun _ _ _ h => h) hHeld ?_ ?_
  · exact Or.inl ⟨by rfl, fun W hSw => by clear hSw; go_simp⟩
  simp only [Act.put, List.setIfInBounds_toArray, List.set_cons_zero, List.set_cons_succ]
  refine takeL 77 (.pointer (some ⟨B, 0, none⟩)) rfl (by as_aux_lemma => kernel_rfl) (by as_aux_lemma => kernel_rfl) (by as_aux_lemma => kernel_rfl) (fun _ _ _ h => h) hHeld ?_ ?_
  · exact Or.inl ⟨by rfl, fun W hSw => by clear hSw; go_simp⟩
  simp only [Act.put, List.setIfInBounds_toArray, List.set_cons_zero, List.set_cons_succ]
  refine takeL 78 (.pointer (some ⟨B, 14, none⟩)) rfl (by as_aux_lemma => kernel_rfl) (by as_aux_lemma => kernel_rfl) (by as_aux_lemma => kernel_rfl) (fun _ _ _ h => h) hHeld ?_ ?_
  · exact Or.inl ⟨by rfl, fun W hSw => by clear hSw; go_simp⟩
  simp only [Act.put, List.setIfInBounds_toArray, List.set_cons_zero, List.set_cons_succ]
  refine takeL 79 (.int .i64 lt) rfl (by as_aux_lemma => kernel_rfl) (by as_aux_lemma => kernel_rfl) (by as_aux_lemma => kernel_rfl) (fun _ _ _ h => h) hHeld ?_ ?_
  · exact Or.inl ⟨by rfl, fun W hSw => by (have g := HH.out.below hSw; have ec14 := g.c14; clear g hSw; go_simp)⟩
  simp only [Act.put, List.setIfInBounds_toArray, List.set_cons_zero, List.set_cons_succ]
  refine takeL 80 (.pointer (some ⟨B', 0, none⟩)) rfl (by as_aux_lemma => kernel_rfl) (by as_aux_lemma => kernel_rfl) (by as_aux_lemma => kernel_rfl) (fun _ _ _ h => h) hHeld ?_ ?_
  · exact Or.inl ⟨by rfl, fun W hSw => by clear hSw; go_simp⟩
  simp only [Act.put, List.setIfInBounds_toArray, List.set_cons_zero, List.set_cons_succ]
  refine takeL 81 (.pointer (some ⟨B', 0, none⟩)) rfl (by as_aux_lemma => kernel_rfl) (by as_aux_lemma => kernel_rfl) (by as_aux_lemma => kernel_rfl) (fun _ _ _ h => h) hHeld ?_ ?_
  · exact Or.inl ⟨by rfl, fun W hSw => by clear hSw; go_simp⟩
  simp only [Act.put, List.setIfInBounds_toArray, List.set_cons_zero, List.set_cons_succ]
  refine takeL 82 (.pointer (some ⟨B', 14, none⟩)) rfl (by as_aux_lemma => kernel_rfl) (by as_aux_lemma => kernel_rfl) (by as_aux_lemma => kernel_rfl) (fun _ _ _ h => h) hHeld ?_ ?_
  · exact Or.inl ⟨by rfl, fun W hSw => by clear hSw; go_simp⟩
  simp only [Act.put, List.setIfInBounds_toArray, List.set_cons_zero, List.set_cons_succ]
  refine takeL 83 (.int .i64 lt) rfl (by as_aux_lemma => kernel_rfl) (by as_aux_lemma => kernel_rfl) (by as_aux_lemma => kernel_rfl) (fun _ _ _ h => h) hHeld ?_ ?_
  · exact Or.inl ⟨by rfl, fun W hSw => by (have g := HH'.out.below hSw; have ec14 := g.c14; clear g hSw; go_simp)⟩
  simp only [Act.put, List.setIfInBounds_toArray, List.set_cons_zero, List.set_cons_succ]
  refine takeL 84 (.bool true) rfl (by as_aux_lemma => kernel_rfl) (by as_aux_lemma => kernel_rfl) (by as_aux_lemma => kernel_rfl) (fun _ _ _ h => h) hHeld ?_ ?_
  · exact Or.inl ⟨by rfl, fun W hSw => by clear hSw; go_simp⟩
  simp only [Act.put, List.setIfInBounds_toArray, List.set_cons_zero, List.set_cons_succ]
  refine takeL 85 (.bool true) rfl (by as_aux_lemma => kernel_rfl) (by as_aux_lemma => kernel_rfl) (by as_aux_lemma => kernel_rfl) (fun _ _ _ h => h) hHeld ?_ ?_
  · exact Or.inl ⟨by rfl, fun W hSw => by clear hSw; go_simp⟩
  simp only [Act.put, List.setIfInBounds_toArray, List.set_cons_zero, List.set_cons_succ]
  refine takeL 86 (.bool true) rfl (by as_aux_lemma => kernel_rfl) (by as_aux_lemma => kernel_rfl) (by as_aux_lemma => kernel_rfl) (fun _ _ _ h => h) hHeld ?_ ?_
  · exact Or.inl ⟨by rfl, fun W hSw => by clear hSw; go_simp⟩
  simp only [Act.put, List.setIfInBounds_toArray, List.set_cons_zero, List.set_cons_succ]
  refine takeL 87 (.pointer (some ⟨B, 0, none⟩)) rfl (by as_aux_lemma => kernel_rfl) (by as_aux_lemma => kernel_rfl) (by as_aux_lemma => kernel_rfl) (fun _ _ _ h => h) hHeld ?_ ?_
  · exact Or.inl ⟨by rfl, fun W hSw => by clear hSw; go_simp⟩
  simp only [Act.put, List.setIfInBounds_toArray, List.set_cons_zero, List.set_cons_succ]
  refine takeL 88 (.pointer (some ⟨B, 0, none⟩)) rfl (by as_aux_lemma => kernel_rfl) (by as_aux_lemma => kernel_rfl) (by as_aux_lemma => kernel_rfl) (fun _ _ _ h => h) hHeld ?_ ?_
  · exact Or.inl ⟨by rfl, fun W hSw => by clear hSw; go_simp⟩
  simp only [Act.put, List.setIfInBounds_toArray, List.set_cons_zero, List.set_cons_succ]
  refine takeL 89 (.pointer (some ⟨B, 15, none⟩)) rfl (by as_aux_lemma => kernel_rfl) (by as_aux_lemma => kernel_rfl) (by as_aux_lemma => kernel_rfl) (fun _ _ _ h => h) hHeld ?_ ?_
  · exact Or.inl ⟨by rfl, fun W hSw => by clear hSw; go_simp⟩
  simp only [Act.put, List.setIfInBounds_toArray, List.set_cons_zero, List.set_cons_succ]
  refine takeL 90 (.agg C) rfl (by as_aux_lemma => kernel_rfl) (by as_aux_lemma => kernel_rfl) (by as_aux_lemma => kernel_rfl) (fun _ _ _ h => h) hHeld ?_ ?_
  · exact load41at rfl rfl B rfl C hCs (fun W hSw => (HH.out.below hSw).dr)
  simp only [Act.put, List.setIfInBounds_toArray, List.set_cons_zero, List.set_cons_succ]
  refine takeL 91 (.pointer (some ⟨B', 0, none⟩)) rfl (by as_aux_lemma => kernel_rfl) (by as_aux_lemma => kernel_rfl) (by as_aux_lemma => kernel_rfl) (fun _ _ _ h => h) hHeld ?_ ?_
  · exact Or.inl ⟨by rfl, fun W hSw => by clear hSw; go_simp⟩
  simp only [Act.put, List.setIfInBounds_toArray, List.set_cons_zero, List.set_cons_succ]
  refine takeL 92 (.pointer (some ⟨B', 0, none⟩)) rfl (by as_aux_lemma => kernel_rfl) (by as_aux_lemma => kernel_rfl) (by as_aux_lemma => kernel_rfl) (fun _ _ _ h => h) hHeld ?_ ?_
  · exact Or.inl ⟨by rfl, fun W hSw => by clear hSw; go_simp⟩
  simp only [Act.put, List.setIfInBounds_toArray, List.set_cons_zero, List.set_cons_succ]
  refine takeL 93 (.pointer (some ⟨B', 15, none⟩)) rfl (by as_aux_lemma => kernel_rfl) (by as_aux_lemma => kernel_rfl) (by as_aux_lemma => kernel_rfl) (fun _ _ _ h => h) hHeld ?_ ?_
  · exact Or.inl ⟨by rfl, fun W hSw => by clear hSw; go_simp⟩
  simp only [Act.put, List.setIfInBounds_toArray, List.set_cons_zero, List.set_cons_succ]
  refine takeL 94 (.agg C) rfl (by as_aux_lemma => kernel_rfl) (by as_aux_lemma => kernel_rfl) (by as_aux_lemma => kernel_rfl) (fun _ _ _ h => h) hHeld ?_ ?_
  · exact load41at rfl rfl B' rfl C hCs (fun W hSw => (HH'.out.below hSw).dr)
  simp only [Act.put, List.setIfInBounds_toArray, List.set_cons_zero, List.set_cons_succ]
  refine takeL 95 (.bool true) rfl (by as_aux_lemma => kernel_rfl) (by as_aux_lemma => kernel_rfl) (by as_aux_lemma => kernel_rfl) (fun _ _ _ h => h) hHeld ?_ ?_
  · exact eql41 rfl rfl C ta tb HC.out rfl rfl
  simp only [Act.put, List.setIfInBounds_toArray, List.set_cons_zero, List.set_cons_succ]
  refine takeL 96 (.bool true) rfl (by as_aux_lemma => kernel_rfl) (by as_aux_lemma => kernel_rfl) (by as_aux_lemma => kernel_rfl) (fun _ _ _ h => h) hHeld ?_ ?_
  · exact Or.inl ⟨by rfl, fun W hSw => by clear hSw; go_simp⟩
  simp only [Act.put, List.setIfInBounds_toArray, List.set_cons_zero, List.set_cons_succ]
  refine takeL 97 (.bool true) rfl (by as_aux_lemma => kernel_rfl) (by as_aux_lemma => kernel_rfl) (by as_aux_lemma => kernel_rfl) (fun _ _ _ h => h) hHeld ?_ ?_
  · exact Or.inl ⟨by rfl, fun W hSw => by clear hSw; go_simp⟩
  simp only [Act.put, List.setIfInBounds_toArray, List.set_cons_zero, List.set_cons_succ]
  refine wpAnyH_done (by as_aux_lemma => kernel_rfl) ?_ _
  go_wp2_with fail
  go_ret
  exact ⟨rfl, hHeld⟩

end Go.Proofs.YbulkdjfsDoor
