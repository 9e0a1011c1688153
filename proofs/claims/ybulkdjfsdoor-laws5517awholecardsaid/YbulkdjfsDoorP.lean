import Derived.Test.YbulkdjfsDoorO
import Derived.Test.YbulkdjfsDoorV
import Derived.Deep.MidRow
namespace Go.Proofs.YbulkdjfsDoor
open Go.RowKit
open Fl (R Out Nan Same)
attribute [local go_sem] run_store_flt

/-- A shedder in block b: its cells. -/
structure At (w : World) (b : Nat) (k s : Nat) (mf : Int) (k3 s3 k5 s5 cr : Nat) (f0 f1 m0 m1 lt : Int) (C : Array Value) : Prop where
  blk : b < w.heap.size
  c0 : w.cell? ⟨b, 0, none⟩ = some (.int .i64 k)
  c1 : w.cell? ⟨b, 1, none⟩ = some (.float .f64 s)
  c2 : w.cell? ⟨b, 2, none⟩ = some (.int .i64 mf)
  c3 : w.cell? ⟨b, 3, none⟩ = some (.int .i64 k3)
  c4 : w.cell? ⟨b, 4, none⟩ = some (.float .f64 s3)
  c5 : w.cell? ⟨b, 5, none⟩ = some (.int .i64 k5)
  c6 : w.cell? ⟨b, 6, none⟩ = some (.float .f64 s5)
  c7 : w.cell? ⟨b, 7, none⟩ = some (.float .f64 cr)
  c8 : w.cell? ⟨b, 8, none⟩ = some (.int .u64 f0)
  c9 : w.cell? ⟨b, 9, none⟩ = some (.int .i64 f1)
  c10 : w.cell? ⟨b, 10, none⟩ = some (.pointer none)
  c11 : w.cell? ⟨b, 11, none⟩ = some (.int .u64 m0)
  c12 : w.cell? ⟨b, 12, none⟩ = some (.int .i64 m1)
  c13 : w.cell? ⟨b, 13, none⟩ = some (.pointer none)
  c14 : w.cell? ⟨b, 14, none⟩ = some (.int .i64 lt)
  dr : ∀ i, i < 1289 → w.cell? ⟨b, 15 + i, none⟩ = C[i]?

theorem At.below {w w' : World} {b : Nat} {k s : Nat} {mf : Int} {k3 s3 k5 s5 cr : Nat} {f0 f1 m0 m1 lt : Int} {C : Array Value} (h : At w b k s mf k3 s3 k5 s5 cr f0 f1 m0 m1 lt C) (hb : Below w.heap.size w w') : At w' b k s mf k3 s3 k5 s5 cr f0 f1 m0 m1 lt C := by
  have kk := kept_below hb h.blk
  exact ⟨Nat.lt_of_lt_of_le h.blk hb.size, (kk _).trans h.c0, (kk _).trans h.c1, (kk _).trans h.c2, (kk _).trans h.c3, (kk _).trans h.c4, (kk _).trans h.c5, (kk _).trans h.c6, (kk _).trans h.c7, (kk _).trans h.c8, (kk _).trans h.c9, (kk _).trans h.c10, (kk _).trans h.c11, (kk _).trans h.c12, (kk _).trans h.c13, (kk _).trans h.c14, fun i hi => (kk _).trans (h.dr i hi)⟩

/-- The demand, read whole out of a shedder, in a region that draws its order. -/
theorem load41at {ops : Array Oper} {S : World → Prop} {op : Oper} {a : Act} {x : Operand} (ho : op.op = .load 41 x) (hg : Region.wanted op (yielded ops a.tmps) = true) (b : Nat) (hx : a.eval x = .pointer (some ⟨b, 15, none⟩)) (C : Array Value) (hC : C.size = 1289)
    (hS : ∀ W, S W → ∀ i, i < 1289 → W.cell? ⟨b, 15 + i, none⟩ = C[i]?) : YieldsIf Ybad.prog ops S op (.agg C) a := by
  have hl : C.toList.length = 1289 := by simpa using hC
  have := yieldsIf_load_mid (P := Ybad.prog) (S := S) hg 41 x ho b 15 hx C.toList _ (fun W h j v hv => by
    have hj : j < 1289 := by
      have := (List.getElem?_eq_some_iff.1 hv).1
      omega
    rw [hS W h j hj]
    simpa using hv) hu41 (by kernel_rfl) (by rw [hl]; kernel_rfl)
  simpa using this

theorem guard41 (x y : Operand) (C : Array Value) (w : World) : (eqGuard .eql 41 x y (.agg C) (.agg C)).run Ybad.prog w = .ok () w := by kernel_rfl

/-- The demands are held against each other. -/
theorem eql41 {ops : Array Oper} {S : World → Prop} {op : Oper} {a : Act} {x y : Operand} {rt : TypeId} (ho : op.op = .binOp .eql 41 x y rt) (hg : Region.wanted op (yielded ops a.tmps) = true) (C : Array Value) (ta tb : Int) (hC : DemOK C ta tb)
    (hx : a.eval x = .agg C) (hy : a.eval y = .agg C) : YieldsIf Ybad.prog ops S op (.bool true) a :=
  .inl ⟨hg, fun W _ => by
    have h1 := guard41 x y C W
    have h2 := run_eq_dem C ta tb hC W
    unfold execOp
    simp only [ho, hx, hy, Sem.run_bind, h1, h2, Result.andThen_ok, Sem.run_pure]⟩

/-- 'wpAnyH_take' for the great region of 'same', whose operations come up in the text's order. -/
theorem takeM {Q : Exit → Act → World → Prop} {S : World → Prop} (i : Nat) (v : Value) {oi : Oper} {fuel : Nat} {a : Act} {w : World} (hi : (opsOf Ybad.f12 1)[i]? = some oi)
    (hc : (Region.free .any (opsOf Ybad.f12 1).toArray (mask 98 i) i && (Region.ready .any (opsOf Ybad.f12 1).toArray (mask 98 i)).contains i) = true)
    (hQ : ∀ c a w, Q (.panic c) (a.put oi.dst v) w → Q (.panic c) a w) (hS : S w) (hy : YieldsIf Ybad.prog (opsOf Ybad.f12 1).toArray S oi v a)
    (h : wpAnyH Ybad.prog .any (opsOf Ybad.f12 1).toArray Q S fuel (mask 98 (i + 1)) (a.put oi.dst v) w) : wpAnyH Ybad.prog .any (opsOf Ybad.f12 1).toArray Q S (fuel + 1) (mask 98 i) a w := by
  rw [Bool.and_eq_true] at hc
  exact wpAnyH_take (by simpa using hi) ns12 hc.1 hc.2 hQ hy hS (by rw [mask_succ]; exact h)

theorem oneM {Q : Exit → Act → World → Prop} {S : World → Prop} (i : Nat) {oi : Oper} {fuel : Nat} {a : Act} {w : World} (hi : (opsOf Ybad.f12 1)[i]? = some oi) (hr : Region.ready .any (opsOf Ybad.f12 1).toArray (mask 98 i) = [i])
    (h : ∀ K' : Act → World → Prop, Shut (∀ a w, S w → (S w → wpAnyH Ybad.prog .any (opsOf Ybad.f12 1).toArray Q S fuel (mask 98 (i + 1)) a w) → K' a w) → if Region.wanted oi (yielded (opsOf Ybad.f12 1).toArray a.tmps) = true then Oper.wp Ybad.prog oi a w K' Q else K' (a.put oi.dst undef) w) :
    wpAnyH Ybad.prog .any (opsOf Ybad.f12 1).toArray Q S (fuel + 1) (mask 98 i) a w := by
  refine oneL i hi hr ?_
  rw [mask_succ]
  exact h

theorem to_ops12 {Q : Exit → Act → World → Prop} {a : Act} {w : World} (h : (Code.region 1 (opsOf Ybad.f12 1).toArray true).wp Ybad.prog Q a w) : (Code.region 1 (opsOf Ybad.f12 1).toArray true).wp Ybad.prog Q a w := h

theorem to_mask {Q : Exit → Act → World → Prop} {S : World → Prop} {a : Act} {w : World} (h : wpAnyH Ybad.prog .any (opsOf Ybad.f12 1).toArray Q S 98 (mask 98 0) a w) : wpAnyH Ybad.prog .any (opsOf Ybad.f12 1).toArray Q S (opsOf Ybad.f12 1).toArray.size (Array.replicate (opsOf Ybad.f12 1).toArray.size false) a w := by
  rw [List.size_toArray, ops12_length, mask_zero]
  exact h

set_option maxHeartbeats 3200000 in
set_option maxRecDepth 100000 in
theorem same_any (B B' k s : Nat) (mf : Int) (k3 s3 k5 s5 cr : Nat) (f0 f1 m0 m1 lt ta tb : Int) (C : Array Value) (w : World) (hC : DemOK C ta tb)
    (h : At w B k s mf k3 s3 k5 s5 cr f0 f1 m0 m1 lt C) (h' : At w B' k s mf k3 s3 k5 s5 cr f0 f1 m0 m1 lt C) :
    Calls Ybad.prog 12 #[.pointer (some ⟨B, 0, none⟩), .pointer (some ⟨B', 0, none⟩)] w fun e w' => e = .returned (.bool true) ∧ Below w.heap.size w w' := by
  have HH := hide h
  have HH' := hide h'
  have hCs := hC.size
  have HC := hide hC
  clear h h' hC
  go_enter Ybad.func12, Ybad.ntmps12
  go_upto_region 1 with (fail)
  refine to_ops12 ?_
  refine wp_region_held_drew (S := fun w' => Below w.heap.size w w') (by kernel_rfl) (Below.refl _ _).drew (fun hHeld => ?_)
  refine to_mask ?_
  refine takeM 0 (.pointer (some ⟨B, 0, none⟩)) rfl (List.all_eq_true.1 fr0 0 (by decide)) (fun _ _ _ h => h) hHeld ?_ ?_
  · exact Or.inl ⟨by rfl, fun W hSw => by clear hSw; go_simp⟩
  simp only [Act.put, List.setIfInBounds_toArray, List.set_cons_zero, List.set_cons_succ]
  refine takeM 1 (.pointer (some ⟨B, 0, none⟩)) rfl (List.all_eq_true.1 fr0 1 (by decide)) (fun _ _ _ h => h) hHeld ?_ ?_
  · exact Or.inl ⟨by rfl, fun W hSw => by clear hSw; go_simp⟩
  simp only [Act.put, List.setIfInBounds_toArray, List.set_cons_zero, List.set_cons_succ]
  refine takeM 2 (.pointer (some ⟨B, 0, none⟩)) rfl (List.all_eq_true.1 fr0 2 (by decide)) (fun _ _ _ h => h) hHeld ?_ ?_
  · exact Or.inl ⟨by rfl, fun W hSw => by clear hSw; go_simp⟩
  simp only [Act.put, List.setIfInBounds_toArray, List.set_cons_zero, List.set_cons_succ]
  refine takeM 3 (.agg #[.int .i64 k, .float .f64 s]) rfl (List.all_eq_true.1 fr0 3 (by decide)) (fun _ _ _ h => h) hHeld ?_ ?_
  · exact Or.inl ⟨by rfl, fun W hSw => by (have g := HH.out.below hSw; have ec0 := g.c0; have ec1 := g.c1; clear g hSw; go_simp)⟩
  simp only [Act.put, List.setIfInBounds_toArray, List.set_cons_zero, List.set_cons_succ]
  refine takeM 4 (.pointer (some ⟨B', 0, none⟩)) rfl (List.all_eq_true.1 fr0 4 (by decide)) (fun _ _ _ h => h) hHeld ?_ ?_
  · exact Or.inl ⟨by rfl, fun W hSw => by clear hSw; go_simp⟩
  simp only [Act.put, List.setIfInBounds_toArray, List.set_cons_zero, List.set_cons_succ]
  refine takeM 5 (.pointer (some ⟨B', 0, none⟩)) rfl (List.all_eq_true.1 fr0 5 (by decide)) (fun _ _ _ h => h) hHeld ?_ ?_
  · exact Or.inl ⟨by rfl, fun W hSw => by clear hSw; go_simp⟩
  simp only [Act.put, List.setIfInBounds_toArray, List.set_cons_zero, List.set_cons_succ]
  refine takeM 6 (.pointer (some ⟨B', 0, none⟩)) rfl (List.all_eq_true.1 fr0 6 (by decide)) (fun _ _ _ h => h) hHeld ?_ ?_
  · exact Or.inl ⟨by rfl, fun W hSw => by clear hSw; go_simp⟩
  simp only [Act.put, List.setIfInBounds_toArray, List.set_cons_zero, List.set_cons_succ]
  refine takeM 7 (.agg #[.int .i64 k, .float .f64 s]) rfl (List.all_eq_true.1 fr0 7 (by decide)) (fun _ _ _ h => h) hHeld ?_ ?_
  · exact Or.inl ⟨by rfl, fun W hSw => by (have g := HH'.out.below hSw; have ec0 := g.c0; have ec1 := g.c1; clear g hSw; go_simp)⟩
  simp only [Act.put, List.setIfInBounds_toArray, List.set_cons_zero, List.set_cons_succ]
  refine oneM 8 rfl rd8 (fun K hK => ?_)
  go_simp
  refine (ceq_same k s _).mono ?_
  rintro e w1 ⟨rfl, hb⟩
  go_wp2_with fail
  refine hK.out _ _ (below_next hHeld hb) (fun hHeld2 => ?_)
  clear hHeld hK
  have hHeld := hHeld2
  clear hHeld2 hb
  refine takeM 9 (.bool true) rfl (List.all_eq_true.1 fr0 9 (by decide)) (fun _ _ _ h => h) hHeld ?_ ?_
  · exact Or.inl ⟨by rfl, fun W hSw => by clear hSw; go_simp⟩
  simp only [Act.put, List.setIfInBounds_toArray, List.set_cons_zero, List.set_cons_succ]
  refine takeM 10 (.pointer (some ⟨B, 0, none⟩)) rfl (List.all_eq_true.1 fr0 10 (by decide)) (fun _ _ _ h => h) hHeld ?_ ?_
  · exact Or.inl ⟨by rfl, fun W hSw => by clear hSw; go_simp⟩
  simp only [Act.put, List.setIfInBounds_toArray, List.set_cons_zero, List.set_cons_succ]
  refine takeM 11 (.pointer (some ⟨B, 0, none⟩)) rfl (List.all_eq_true.1 fr0 11 (by decide)) (fun _ _ _ h => h) hHeld ?_ ?_
  · exact Or.inl ⟨by rfl, fun W hSw => by clear hSw; go_simp⟩
  simp only [Act.put, List.setIfInBounds_toArray, List.set_cons_zero, List.set_cons_succ]
  refine takeM 12 (.pointer (some ⟨B, 2, none⟩)) rfl (List.all_eq_true.1 fr0 12 (by decide)) (fun _ _ _ h => h) hHeld ?_ ?_
  · exact Or.inl ⟨by rfl, fun W hSw => by clear hSw; go_simp⟩
  simp only [Act.put, List.setIfInBounds_toArray, List.set_cons_zero, List.set_cons_succ]
  refine takeM 13 (.int .i64 mf) rfl (List.all_eq_true.1 fr1 13 (by decide)) (fun _ _ _ h => h) hHeld ?_ ?_
  · exact Or.inl ⟨by rfl, fun W hSw => by (have g := HH.out.below hSw; have ec2 := g.c2; clear g hSw; go_simp)⟩
  simp only [Act.put, List.setIfInBounds_toArray, List.set_cons_zero, List.set_cons_succ]
  refine takeM 14 (.pointer (some ⟨B', 0, none⟩)) rfl (List.all_eq_true.1 fr1 14 (by decide)) (fun _ _ _ h => h) hHeld ?_ ?_
  · exact Or.inl ⟨by rfl, fun W hSw => by clear hSw; go_simp⟩
  simp only [Act.put, List.setIfInBounds_toArray, List.set_cons_zero, List.set_cons_succ]
  refine takeM 15 (.pointer (some ⟨B', 0, none⟩)) rfl (List.all_eq_true.1 fr1 15 (by decide)) (fun _ _ _ h => h) hHeld ?_ ?_
  · exact Or.inl ⟨by rfl, fun W hSw => by clear hSw; go_simp⟩
  simp only [Act.put, List.setIfInBounds_toArray, List.set_cons_zero, List.set_cons_succ]
  refine takeM 16 (.pointer (some ⟨B', 2, none⟩)) rfl (List.all_eq_true.1 fr1 16 (by decide)) (fun _ _ _ h => h) hHeld ?_ ?_
  · exact Or.inl ⟨by rfl, fun W hSw => by clear hSw; go_simp⟩
  simp only [Act.put, List.setIfInBounds_toArray, List.set_cons_zero, List.set_cons_succ]
  refine takeM 17 (.int .i64 mf) rfl (List.all_eq_true.1 fr1 17 (by decide)) (fun _ _ _ h => h) hHeld ?_ ?_
  · exact Or.inl ⟨by rfl, fun W hSw => by (have g := HH'.out.below hSw; have ec2 := g.c2; clear g hSw; go_simp)⟩
  simp only [Act.put, List.setIfInBounds_toArray, List.set_cons_zero, List.set_cons_succ]
  refine takeM 18 (.bool true) rfl (List.all_eq_true.1 fr1 18 (by decide)) (fun _ _ _ h => h) hHeld ?_ ?_
  · exact Or.inl ⟨by rfl, fun W hSw => by clear hSw; go_simp⟩
  simp only [Act.put, List.setIfInBounds_toArray, List.set_cons_zero, List.set_cons_succ]
  refine takeM 19 (.bool true) rfl (List.all_eq_true.1 fr1 19 (by decide)) (fun _ _ _ h => h) hHeld ?_ ?_
  · exact Or.inl ⟨by rfl, fun W hSw => by clear hSw; go_simp⟩
  simp only [Act.put, List.setIfInBounds_toArray, List.set_cons_zero, List.set_cons_succ]
  refine takeM 20 (.bool true) rfl (List.all_eq_true.1 fr1 20 (by decide)) (fun _ _ _ h => h) hHeld ?_ ?_
  · exact Or.inl ⟨by rfl, fun W hSw => by clear hSw; go_simp⟩
  simp only [Act.put, List.setIfInBounds_toArray, List.set_cons_zero, List.set_cons_succ]
  refine takeM 21 (.pointer (some ⟨B, 0, none⟩)) rfl (List.all_eq_true.1 fr1 21 (by decide)) (fun _ _ _ h => h) hHeld ?_ ?_
  · exact Or.inl ⟨by rfl, fun W hSw => by clear hSw; go_simp⟩
  simp only [Act.put, List.setIfInBounds_toArray, List.set_cons_zero, List.set_cons_succ]
  refine takeM 22 (.pointer (some ⟨B, 0, none⟩)) rfl (List.all_eq_true.1 fr1 22 (by decide)) (fun _ _ _ h => h) hHeld ?_ ?_
  · exact Or.inl ⟨by rfl, fun W hSw => by clear hSw; go_simp⟩
  simp only [Act.put, List.setIfInBounds_toArray, List.set_cons_zero, List.set_cons_succ]
  refine takeM 23 (.pointer (some ⟨B, 3, none⟩)) rfl (List.all_eq_true.1 fr1 23 (by decide)) (fun _ _ _ h => h) hHeld ?_ ?_
  · exact Or.inl ⟨by rfl, fun W hSw => by clear hSw; go_simp⟩
  simp only [Act.put, List.setIfInBounds_toArray, List.set_cons_zero, List.set_cons_succ]
  refine takeM 24 (.agg #[.int .i64 k3, .float .f64 s3]) rfl (List.all_eq_true.1 fr1 24 (by decide)) (fun _ _ _ h => h) hHeld ?_ ?_
  · exact Or.inl ⟨by rfl, fun W hSw => by (have g := HH.out.below hSw; have ec3 := g.c3; have ec4 := g.c4; clear g hSw; go_simp)⟩
  simp only [Act.put, List.setIfInBounds_toArray, List.set_cons_zero, List.set_cons_succ]
  refine takeM 25 (.pointer (some ⟨B', 0, none⟩)) rfl (List.all_eq_true.1 fr2 25 (by decide)) (fun _ _ _ h => h) hHeld ?_ ?_
  · exact Or.inl ⟨by rfl, fun W hSw => by clear hSw; go_simp⟩
  simp only [Act.put, List.setIfInBounds_toArray, List.set_cons_zero, List.set_cons_succ]
  refine takeM 26 (.pointer (some ⟨B', 0, none⟩)) rfl (List.all_eq_true.1 fr2 26 (by decide)) (fun _ _ _ h => h) hHeld ?_ ?_
  · exact Or.inl ⟨by rfl, fun W hSw => by clear hSw; go_simp⟩
  simp only [Act.put, List.setIfInBounds_toArray, List.set_cons_zero, List.set_cons_succ]
  refine takeM 27 (.pointer (some ⟨B', 3, none⟩)) rfl (List.all_eq_true.1 fr2 27 (by decide)) (fun _ _ _ h => h) hHeld ?_ ?_
  · exact Or.inl ⟨by rfl, fun W hSw => by clear hSw; go_simp⟩
  simp only [Act.put, List.setIfInBounds_toArray, List.set_cons_zero, List.set_cons_succ]
  refine takeM 28 (.agg #[.int .i64 k3, .float .f64 s3]) rfl (List.all_eq_true.1 fr2 28 (by decide)) (fun _ _ _ h => h) hHeld ?_ ?_
  · exact Or.inl ⟨by rfl, fun W hSw => by (have g := HH'.out.below hSw; have ec3 := g.c3; have ec4 := g.c4; clear g hSw; go_simp)⟩
  simp only [Act.put, List.setIfInBounds_toArray, List.set_cons_zero, List.set_cons_succ]
  refine oneM 29 rfl rd29 (fun K hK => ?_)
  go_simp
  refine (ceq_same k3 s3 _).mono ?_
  rintro e w2 ⟨rfl, hb⟩
  go_wp2_with fail
  refine hK.out _ _ (below_next hHeld hb) (fun hHeld2 => ?_)
  clear hHeld hK
  have hHeld := hHeld2
  clear hHeld2 hb
  refine takeM 30 (.bool true) rfl (List.all_eq_true.1 fr2 30 (by decide)) (fun _ _ _ h => h) hHeld ?_ ?_
  · exact Or.inl ⟨by rfl, fun W hSw => by clear hSw; go_simp⟩
  simp only [Act.put, List.setIfInBounds_toArray, List.set_cons_zero, List.set_cons_succ]
  refine takeM 31 (.bool true) rfl (List.all_eq_true.1 fr2 31 (by decide)) (fun _ _ _ h => h) hHeld ?_ ?_
  · exact Or.inl ⟨by rfl, fun W hSw => by clear hSw; go_simp⟩
  simp only [Act.put, List.setIfInBounds_toArray, List.set_cons_zero, List.set_cons_succ]
  refine takeM 32 (.pointer (some ⟨B, 0, none⟩)) rfl (List.all_eq_true.1 fr2 32 (by decide)) (fun _ _ _ h => h) hHeld ?_ ?_
  · exact Or.inl ⟨by rfl, fun W hSw => by clear hSw; go_simp⟩
  simp only [Act.put, List.setIfInBounds_toArray, List.set_cons_zero, List.set_cons_succ]
  refine takeM 33 (.pointer (some ⟨B, 0, none⟩)) rfl (List.all_eq_true.1 fr2 33 (by decide)) (fun _ _ _ h => h) hHeld ?_ ?_
  · exact Or.inl ⟨by rfl, fun W hSw => by clear hSw; go_simp⟩
  simp only [Act.put, List.setIfInBounds_toArray, List.set_cons_zero, List.set_cons_succ]
  refine takeM 34 (.pointer (some ⟨B, 5, none⟩)) rfl (List.all_eq_true.1 fr2 34 (by decide)) (fun _ _ _ h => h) hHeld ?_ ?_
  · exact Or.inl ⟨by rfl, fun W hSw => by clear hSw; go_simp⟩
  simp only [Act.put, List.setIfInBounds_toArray, List.set_cons_zero, List.set_cons_succ]
  refine takeM 35 (.agg #[.int .i64 k5, .float .f64 s5]) rfl (List.all_eq_true.1 fr2 35 (by decide)) (fun _ _ _ h => h) hHeld ?_ ?_
  · exact Or.inl ⟨by rfl, fun W hSw => by (have g := HH.out.below hSw; have ec5 := g.c5; have ec6 := g.c6; clear g hSw; go_simp)⟩
  simp only [Act.put, List.setIfInBounds_toArray, List.set_cons_zero, List.set_cons_succ]
  refine takeM 36 (.pointer (some ⟨B', 0, none⟩)) rfl (List.all_eq_true.1 fr2 36 (by decide)) (fun _ _ _ h => h) hHeld ?_ ?_
  · exact Or.inl ⟨by rfl, fun W hSw => by clear hSw; go_simp⟩
  simp only [Act.put, List.setIfInBounds_toArray, List.set_cons_zero, List.set_cons_succ]
  refine takeM 37 (.pointer (some ⟨B', 0, none⟩)) rfl (List.all_eq_true.1 fr2 37 (by decide)) (fun _ _ _ h => h) hHeld ?_ ?_
  · exact Or.inl ⟨by rfl, fun W hSw => by clear hSw; go_simp⟩
  simp only [Act.put, List.setIfInBounds_toArray, List.set_cons_zero, List.set_cons_succ]
  refine takeM 38 (.pointer (some ⟨B', 5, none⟩)) rfl (List.all_eq_true.1 fr3 38 (by decide)) (fun _ _ _ h => h) hHeld ?_ ?_
  · exact Or.inl ⟨by rfl, fun W hSw => by clear hSw; go_simp⟩
  simp only [Act.put, List.setIfInBounds_toArray, List.set_cons_zero, List.set_cons_succ]
  refine takeM 39 (.agg #[.int .i64 k5, .float .f64 s5]) rfl (List.all_eq_true.1 fr3 39 (by decide)) (fun _ _ _ h => h) hHeld ?_ ?_
  · exact Or.inl ⟨by rfl, fun W hSw => by (have g := HH'.out.below hSw; have ec5 := g.c5; have ec6 := g.c6; clear g hSw; go_simp)⟩
  simp only [Act.put, List.setIfInBounds_toArray, List.set_cons_zero, List.set_cons_succ]
  refine oneM 40 rfl rd40 (fun K hK => ?_)
  go_simp
  refine (ceq_same k5 s5 _).mono ?_
  rintro e w3 ⟨rfl, hb⟩
  go_wp2_with fail
  refine hK.out _ _ (below_next hHeld hb) (fun hHeld2 => ?_)
  clear hHeld hK
  have hHeld := hHeld2
  clear hHeld2 hb
  refine takeM 41 (.bool true) rfl (List.all_eq_true.1 fr3 41 (by decide)) (fun _ _ _ h => h) hHeld ?_ ?_
  · exact Or.inl ⟨by rfl, fun W hSw => by clear hSw; go_simp⟩
  simp only [Act.put, List.setIfInBounds_toArray, List.set_cons_zero, List.set_cons_succ]
  refine takeM 42 (.bool true) rfl (List.all_eq_true.1 fr3 42 (by decide)) (fun _ _ _ h => h) hHeld ?_ ?_
  · exact Or.inl ⟨by rfl, fun W hSw => by clear hSw; go_simp⟩
  simp only [Act.put, List.setIfInBounds_toArray, List.set_cons_zero, List.set_cons_succ]
  refine takeM 43 (.pointer (some ⟨B, 0, none⟩)) rfl (List.all_eq_true.1 fr3 43 (by decide)) (fun _ _ _ h => h) hHeld ?_ ?_
  · exact Or.inl ⟨by rfl, fun W hSw => by clear hSw; go_simp⟩
  simp only [Act.put, List.setIfInBounds_toArray, List.set_cons_zero, List.set_cons_succ]
  refine takeM 44 (.pointer (some ⟨B, 0, none⟩)) rfl (List.all_eq_true.1 fr3 44 (by decide)) (fun _ _ _ h => h) hHeld ?_ ?_
  · exact Or.inl ⟨by rfl, fun W hSw => by clear hSw; go_simp⟩
  simp only [Act.put, List.setIfInBounds_toArray, List.set_cons_zero, List.set_cons_succ]
  refine takeM 45 (.pointer (some ⟨B, 7, none⟩)) rfl (List.all_eq_true.1 fr3 45 (by decide)) (fun _ _ _ h => h) hHeld ?_ ?_
  · exact Or.inl ⟨by rfl, fun W hSw => by clear hSw; go_simp⟩
  simp only [Act.put, List.setIfInBounds_toArray, List.set_cons_zero, List.set_cons_succ]
  refine takeM 46 (.float .f64 cr) rfl (List.all_eq_true.1 fr3 46 (by decide)) (fun _ _ _ h => h) hHeld ?_ ?_
  · exact Or.inl ⟨by rfl, fun W hSw => by (have g := HH.out.below hSw; have ec7 := g.c7; clear g hSw; go_simp)⟩
  simp only [Act.put, List.setIfInBounds_toArray, List.set_cons_zero, List.set_cons_succ]
  refine takeM 47 (.pointer (some ⟨B', 0, none⟩)) rfl (List.all_eq_true.1 fr3 47 (by decide)) (fun _ _ _ h => h) hHeld ?_ ?_
  · exact Or.inl ⟨by rfl, fun W hSw => by clear hSw; go_simp⟩
  simp only [Act.put, List.setIfInBounds_toArray, List.set_cons_zero, List.set_cons_succ]
  refine takeM 48 (.pointer (some ⟨B', 0, none⟩)) rfl (List.all_eq_true.1 fr3 48 (by decide)) (fun _ _ _ h => h) hHeld ?_ ?_
  · exact Or.inl ⟨by rfl, fun W hSw => by clear hSw; go_simp⟩
  simp only [Act.put, List.setIfInBounds_toArray, List.set_cons_zero, List.set_cons_succ]
  refine takeM 49 (.pointer (some ⟨B', 7, none⟩)) rfl (List.all_eq_true.1 fr3 49 (by decide)) (fun _ _ _ h => h) hHeld ?_ ?_
  · exact Or.inl ⟨by rfl, fun W hSw => by clear hSw; go_simp⟩
  simp only [Act.put, List.setIfInBounds_toArray, List.set_cons_zero, List.set_cons_succ]
  refine takeM 50 (.float .f64 cr) rfl (List.all_eq_true.1 fr3 50 (by decide)) (fun _ _ _ h => h) hHeld ?_ ?_
  · exact Or.inl ⟨by rfl, fun W hSw => by (have g := HH'.out.below hSw; have ec7 := g.c7; clear g hSw; go_simp)⟩
  simp only [Act.put, List.setIfInBounds_toArray, List.set_cons_zero, List.set_cons_succ]
  refine oneM 51 rfl rd51 (fun K hK => ?_)
  go_simp
  refine (feq_same cr _).mono ?_
  rintro e w4 ⟨rfl, rfl⟩
  go_wp2_with fail
  refine hK.out _ _ hHeld (fun hHeld2 => ?_)
  clear hHeld hK
  have hHeld := hHeld2
  clear hHeld2
  refine takeM 52 (.bool true) rfl (List.all_eq_true.1 fr4 52 (by decide)) (fun _ _ _ h => h) hHeld ?_ ?_
  · exact Or.inl ⟨by rfl, fun W hSw => by clear hSw; go_simp⟩
  simp only [Act.put, List.setIfInBounds_toArray, List.set_cons_zero, List.set_cons_succ]
  refine takeM 53 (.bool true) rfl (List.all_eq_true.1 fr4 53 (by decide)) (fun _ _ _ h => h) hHeld ?_ ?_
  · exact Or.inl ⟨by rfl, fun W hSw => by clear hSw; go_simp⟩
  simp only [Act.put, List.setIfInBounds_toArray, List.set_cons_zero, List.set_cons_succ]
  refine takeM 54 (.pointer (some ⟨B, 0, none⟩)) rfl (List.all_eq_true.1 fr4 54 (by decide)) (fun _ _ _ h => h) hHeld ?_ ?_
  · exact Or.inl ⟨by rfl, fun W hSw => by clear hSw; go_simp⟩
  simp only [Act.put, List.setIfInBounds_toArray, List.set_cons_zero, List.set_cons_succ]
  refine takeM 55 (.pointer (some ⟨B, 0, none⟩)) rfl (List.all_eq_true.1 fr4 55 (by decide)) (fun _ _ _ h => h) hHeld ?_ ?_
  · exact Or.inl ⟨by rfl, fun W hSw => by clear hSw; go_simp⟩
  simp only [Act.put, List.setIfInBounds_toArray, List.set_cons_zero, List.set_cons_succ]
  refine takeM 56 (.pointer (some ⟨B, 8, none⟩)) rfl (List.all_eq_true.1 fr4 56 (by decide)) (fun _ _ _ h => h) hHeld ?_ ?_
  · exact Or.inl ⟨by rfl, fun W hSw => by clear hSw; go_simp⟩
  simp only [Act.put, List.setIfInBounds_toArray, List.set_cons_zero, List.set_cons_succ]
  refine takeM 57 (.agg #[.int .u64 f0, .int .i64 f1, .pointer none]) rfl (List.all_eq_true.1 fr4 57 (by decide)) (fun _ _ _ h => h) hHeld ?_ ?_
  · exact Or.inl ⟨by rfl, fun W hSw => by (have g := HH.out.below hSw; have ec8 := g.c8; have ec9 := g.c9; have ec10 := g.c10; clear g hSw; go_simp)⟩
  simp only [Act.put, List.setIfInBounds_toArray, List.set_cons_zero, List.set_cons_succ]
  refine takeM 58 (.pointer (some ⟨B', 0, none⟩)) rfl (List.all_eq_true.1 fr4 58 (by decide)) (fun _ _ _ h => h) hHeld ?_ ?_
  · exact Or.inl ⟨by rfl, fun W hSw => by clear hSw; go_simp⟩
  simp only [Act.put, List.setIfInBounds_toArray, List.set_cons_zero, List.set_cons_succ]
  refine takeM 59 (.pointer (some ⟨B', 0, none⟩)) rfl (List.all_eq_true.1 fr4 59 (by decide)) (fun _ _ _ h => h) hHeld ?_ ?_
  · exact Or.inl ⟨by rfl, fun W hSw => by clear hSw; go_simp⟩
  simp only [Act.put, List.setIfInBounds_toArray, List.set_cons_zero, List.set_cons_succ]
  refine takeM 60 (.pointer (some ⟨B', 8, none⟩)) rfl (List.all_eq_true.1 fr4 60 (by decide)) (fun _ _ _ h => h) hHeld ?_ ?_
  · exact Or.inl ⟨by rfl, fun W hSw => by clear hSw; go_simp⟩
  simp only [Act.put, List.setIfInBounds_toArray, List.set_cons_zero, List.set_cons_succ]
  refine takeM 61 (.agg #[.int .u64 f0, .int .i64 f1, .pointer none]) rfl (List.all_eq_true.1 fr4 61 (by decide)) (fun _ _ _ h => h) hHeld ?_ ?_
  · exact Or.inl ⟨by rfl, fun W hSw => by (have g := HH'.out.below hSw; have ec8 := g.c8; have ec9 := g.c9; have ec10 := g.c10; clear g hSw; go_simp)⟩
  simp only [Act.put, List.setIfInBounds_toArray, List.set_cons_zero, List.set_cons_succ]
  refine takeM 62 (.bool true) rfl (List.all_eq_true.1 fr4 62 (by decide)) (fun _ _ _ h => h) hHeld ?_ ?_
  · exact Or.inl ⟨by rfl, fun W hSw => by (clear hSw; have q := eq_nil_ptr W; go_simp)⟩
  simp only [Act.put, List.setIfInBounds_toArray, List.set_cons_zero, List.set_cons_succ]
  refine takeM 63 (.bool true) rfl (List.all_eq_true.1 fr4 63 (by decide)) (fun _ _ _ h => h) hHeld ?_ ?_
  · exact Or.inl ⟨by rfl, fun W hSw => by clear hSw; go_simp⟩
  simp only [Act.put, List.setIfInBounds_toArray, List.set_cons_zero, List.set_cons_succ]
  refine takeM 64 (.bool true) rfl (List.all_eq_true.1 fr5 64 (by decide)) (fun _ _ _ h => h) hHeld ?_ ?_
  · exact Or.inl ⟨by rfl, fun W hSw => by clear hSw; go_simp⟩
  simp only [Act.put, List.setIfInBounds_toArray, List.set_cons_zero, List.set_cons_succ]
  refine takeM 65 (.pointer (some ⟨B, 0, none⟩)) rfl (List.all_eq_true.1 fr5 65 (by decide)) (fun _ _ _ h => h) hHeld ?_ ?_
  · exact Or.inl ⟨by rfl, fun W hSw => by clear hSw; go_simp⟩
  simp only [Act.put, List.setIfInBounds_toArray, List.set_cons_zero, List.set_cons_succ]
  refine takeM 66 (.pointer (some ⟨B, 0, none⟩)) rfl (List.all_eq_true.1 fr5 66 (by decide)) (fun _ _ _ h => h) hHeld ?_ ?_
  · exact Or.inl ⟨by rfl, fun W hSw => by clear hSw; go_simp⟩
  simp only [Act.put, List.setIfInBounds_toArray, List.set_cons_zero, List.set_cons_succ]
  refine takeM 67 (.pointer (some ⟨B, 11, none⟩)) rfl (List.all_eq_true.1 fr5 67 (by decide)) (fun _ _ _ h => h) hHeld ?_ ?_
  · exact Or.inl ⟨by rfl, fun W hSw => by clear hSw; go_simp⟩
  simp only [Act.put, List.setIfInBounds_toArray, List.set_cons_zero, List.set_cons_succ]
  refine takeM 68 (.agg #[.int .u64 m0, .int .i64 m1, .pointer none]) rfl (List.all_eq_true.1 fr5 68 (by decide)) (fun _ _ _ h => h) hHeld ?_ ?_
  · exact Or.inl ⟨by rfl, fun W hSw => by (have g := HH.out.below hSw; have ec11 := g.c11; have ec12 := g.c12; have ec13 := g.c13; clear g hSw; go_simp)⟩
  simp only [Act.put, List.setIfInBounds_toArray, List.set_cons_zero, List.set_cons_succ]
  refine takeM 69 (.pointer (some ⟨B', 0, none⟩)) rfl (List.all_eq_true.1 fr5 69 (by decide)) (fun _ _ _ h => h) hHeld ?_ ?_
  · exact Or.inl ⟨by rfl, fun W hSw => by clear hSw; go_simp⟩
  simp only [Act.put, List.setIfInBounds_toArray, List.set_cons_zero, List.set_cons_succ]
  refine takeM 70 (.pointer (some ⟨B', 0, none⟩)) rfl (List.all_eq_true.1 fr5 70 (by decide)) (fun _ _ _ h => h) hHeld ?_ ?_
  · exact Or.inl ⟨by rfl, fun W hSw => by clear hSw; go_simp⟩
  simp only [Act.put, List.setIfInBounds_toArray, List.set_cons_zero, List.set_cons_succ]
  refine takeM 71 (.pointer (some ⟨B', 11, none⟩)) rfl (List.all_eq_true.1 fr5 71 (by decide)) (fun _ _ _ h => h) hHeld ?_ ?_
  · exact Or.inl ⟨by rfl, fun W hSw => by clear hSw; go_simp⟩
  simp only [Act.put, List.setIfInBounds_toArray, List.set_cons_zero, List.set_cons_succ]
  refine takeM 72 (.agg #[.int .u64 m0, .int .i64 m1, .pointer none]) rfl (List.all_eq_true.1 fr5 72 (by decide)) (fun _ _ _ h => h) hHeld ?_ ?_
  · exact Or.inl ⟨by rfl, fun W hSw => by (have g := HH'.out.below hSw; have ec11 := g.c11; have ec12 := g.c12; have ec13 := g.c13; clear g hSw; go_simp)⟩
  simp only [Act.put, List.setIfInBounds_toArray, List.set_cons_zero, List.set_cons_succ]
  refine takeM 73 (.bool true) rfl (List.all_eq_true.1 fr5 73 (by decide)) (fun _ _ _ h => h) hHeld ?_ ?_
  · exact Or.inl ⟨by rfl, fun W hSw => by (clear hSw; have q := eq_nil_ptr W; go_simp)⟩
  simp only [Act.put, List.setIfInBounds_toArray, List.set_cons_zero, List.set_cons_succ]
  refine takeM 74 (.bool true) rfl (List.all_eq_true.1 fr5 74 (by decide)) (fun _ _ _ h => h) hHeld ?_ ?_
  · exact Or.inl ⟨by rfl, fun W hSw => by clear hSw; go_simp⟩
  simp only [Act.put, List.setIfInBounds_toArray, List.set_cons_zero, List.set_cons_succ]
  refine takeM 75 (.bool true) rfl (List.all_eq_true.1 fr5 75 (by decide)) (fun _ _ _ h => h) hHeld ?_ ?_
  · exact Or.inl ⟨by rfl, fun W hSw => by clear hSw; go_simp⟩
  simp only [Act.put, List.setIfInBounds_toArray, List.set_cons_zero, List.set_cons_succ]
  refine takeM 76 (.pointer (some ⟨B, 0, none⟩)) rfl (List.all_eq_true.1 fr6 76 (by decide)) (fun _ _ _ h => h) hHeld ?_ ?_
  · exact Or.inl ⟨by rfl, fun W hSw => by clear hSw; go_simp⟩
  simp only [Act.put, List.setIfInBounds_toArray, List.set_cons_zero, List.set_cons_succ]
  refine takeM 77 (.pointer (some ⟨B, 0, none⟩)) rfl (List.all_eq_true.1 fr6 77 (by decide)) (fun _ _ _ h => h) hHeld ?_ ?_
  · exact Or.inl ⟨by rfl, fun W hSw => by clear hSw; go_simp⟩
  simp only [Act.put, List.setIfInBounds_toArray, List.set_cons_zero, List.set_cons_succ]
  refine takeM 78 (.pointer (some ⟨B, 14, none⟩)) rfl (List.all_eq_true.1 fr6 78 (by decide)) (fun _ _ _ h => h) hHeld ?_ ?_
  · exact Or.inl ⟨by rfl, fun W hSw => by clear hSw; go_simp⟩
  simp only [Act.put, List.setIfInBounds_toArray, List.set_cons_zero, List.set_cons_succ]
  refine takeM 79 (.int .i64 lt) rfl (List.all_eq_true.1 fr6 79 (by decide)) (fun _ _ _ h => h) hHeld ?_ ?_
  · exact Or.inl ⟨by rfl, fun W hSw => by (have g := HH.out.below hSw; have ec14 := g.c14; clear g hSw; go_simp)⟩
  simp only [Act.put, List.setIfInBounds_toArray, List.set_cons_zero, List.set_cons_succ]
  refine takeM 80 (.pointer (some ⟨B', 0, none⟩)) rfl (List.all_eq_true.1 fr6 80 (by decide)) (fun _ _ _ h => h) hHeld ?_ ?_
  · exact Or.inl ⟨by rfl, fun W hSw => by clear hSw; go_simp⟩
  simp only [Act.put, List.setIfInBounds_toArray, List.set_cons_zero, List.set_cons_succ]
  refine takeM 81 (.pointer (some ⟨B', 0, none⟩)) rfl (List.all_eq_true.1 fr6 81 (by decide)) (fun _ _ _ h => h) hHeld ?_ ?_
  · exact Or.inl ⟨by rfl, fun W hSw => by clear hSw; go_simp⟩
  simp only [Act.put, List.setIfInBounds_toArray, List.set_cons_zero, List.set_cons_succ]
  refine takeM 82 (.pointer (some ⟨B', 14, none⟩)) rfl (List.all_eq_true.1 fr6 82 (by decide)) (fun _ _ _ h => h) hHeld ?_ ?_
  · exact Or.inl ⟨by rfl, fun W hSw => by clear hSw; go_simp⟩
  simp only [Act.put, List.setIfInBounds_toArray, List.set_cons_zero, List.set_cons_succ]
  refine takeM 83 (.int .i64 lt) rfl (List.all_eq_true.1 fr6 83 (by decide)) (fun _ _ _ h => h) hHeld ?_ ?_
  · exact Or.inl ⟨by rfl, fun W hSw => by (have g := HH'.out.below hSw; have ec14 := g.c14; clear g hSw; go_simp)⟩
  simp only [Act.put, List.setIfInBounds_toArray, List.set_cons_zero, List.set_cons_succ]
  refine takeM 84 (.bool true) rfl (List.all_eq_true.1 fr6 84 (by decide)) (fun _ _ _ h => h) hHeld ?_ ?_
  · exact Or.inl ⟨by rfl, fun W hSw => by clear hSw; go_simp⟩
  simp only [Act.put, List.setIfInBounds_toArray, List.set_cons_zero, List.set_cons_succ]
  refine takeM 85 (.bool true) rfl (List.all_eq_true.1 fr6 85 (by decide)) (fun _ _ _ h => h) hHeld ?_ ?_
  · exact Or.inl ⟨by rfl, fun W hSw => by clear hSw; go_simp⟩
  simp only [Act.put, List.setIfInBounds_toArray, List.set_cons_zero, List.set_cons_succ]
  refine takeM 86 (.bool true) rfl (List.all_eq_true.1 fr6 86 (by decide)) (fun _ _ _ h => h) hHeld ?_ ?_
  · exact Or.inl ⟨by rfl, fun W hSw => by clear hSw; go_simp⟩
  simp only [Act.put, List.setIfInBounds_toArray, List.set_cons_zero, List.set_cons_succ]
  refine takeM 87 (.pointer (some ⟨B, 0, none⟩)) rfl (List.all_eq_true.1 fr6 87 (by decide)) (fun _ _ _ h => h) hHeld ?_ ?_
  · exact Or.inl ⟨by rfl, fun W hSw => by clear hSw; go_simp⟩
  simp only [Act.put, List.setIfInBounds_toArray, List.set_cons_zero, List.set_cons_succ]
  refine takeM 88 (.pointer (some ⟨B, 0, none⟩)) rfl (List.all_eq_true.1 fr7 88 (by decide)) (fun _ _ _ h => h) hHeld ?_ ?_
  · exact Or.inl ⟨by rfl, fun W hSw => by clear hSw; go_simp⟩
  simp only [Act.put, List.setIfInBounds_toArray, List.set_cons_zero, List.set_cons_succ]
  refine takeM 89 (.pointer (some ⟨B, 15, none⟩)) rfl (List.all_eq_true.1 fr7 89 (by decide)) (fun _ _ _ h => h) hHeld ?_ ?_
  · exact Or.inl ⟨by rfl, fun W hSw => by clear hSw; go_simp⟩
  simp only [Act.put, List.setIfInBounds_toArray, List.set_cons_zero, List.set_cons_succ]
  refine takeM 90 (.agg C) rfl (List.all_eq_true.1 fr7 90 (by decide)) (fun _ _ _ h => h) hHeld ?_ ?_
  · exact load41at rfl rfl B rfl C hCs (fun W hSw => (HH.out.below hSw).dr)
  simp only [Act.put, List.setIfInBounds_toArray, List.set_cons_zero, List.set_cons_succ]
  refine takeM 91 (.pointer (some ⟨B', 0, none⟩)) rfl (List.all_eq_true.1 fr7 91 (by decide)) (fun _ _ _ h => h) hHeld ?_ ?_
  · exact Or.inl ⟨by rfl, fun W hSw => by clear hSw; go_simp⟩
  simp only [Act.put, List.setIfInBounds_toArray, List.set_cons_zero, List.set_cons_succ]
  refine takeM 92 (.pointer (some ⟨B', 0, none⟩)) rfl (List.all_eq_true.1 fr7 92 (by decide)) (fun _ _ _ h => h) hHeld ?_ ?_
  · exact Or.inl ⟨by rfl, fun W hSw => by clear hSw; go_simp⟩
  simp only [Act.put, List.setIfInBounds_toArray, List.set_cons_zero, List.set_cons_succ]
  refine takeM 93 (.pointer (some ⟨B', 15, none⟩)) rfl (List.all_eq_true.1 fr7 93 (by decide)) (fun _ _ _ h => h) hHeld ?_ ?_
  · exact Or.inl ⟨by rfl, fun W hSw => by clear hSw; go_simp⟩
  simp only [Act.put, List.setIfInBounds_toArray, List.set_cons_zero, List.set_cons_succ]
  refine takeM 94 (.agg C) rfl (List.all_eq_true.1 fr7 94 (by decide)) (fun _ _ _ h => h) hHeld ?_ ?_
  · exact load41at rfl rfl B' rfl C hCs (fun W hSw => (HH'.out.below hSw).dr)
  simp only [Act.put, List.setIfInBounds_toArray, List.set_cons_zero, List.set_cons_succ]
  refine takeM 95 (.bool true) rfl (List.all_eq_true.1 fr7 95 (by decide)) (fun _ _ _ h => h) hHeld ?_ ?_
  · exact eql41 rfl rfl C ta tb HC.out rfl rfl
  simp only [Act.put, List.setIfInBounds_toArray, List.set_cons_zero, List.set_cons_succ]
  refine takeM 96 (.bool true) rfl (List.all_eq_true.1 fr7 96 (by decide)) (fun _ _ _ h => h) hHeld ?_ ?_
  · exact Or.inl ⟨by rfl, fun W hSw => by clear hSw; go_simp⟩
  simp only [Act.put, List.setIfInBounds_toArray, List.set_cons_zero, List.set_cons_succ]
  refine takeM 97 (.bool true) rfl (List.all_eq_true.1 fr7 97 (by decide)) (fun _ _ _ h => h) hHeld ?_ ?_
  · exact Or.inl ⟨by rfl, fun W hSw => by clear hSw; go_simp⟩
  simp only [Act.put, List.setIfInBounds_toArray, List.set_cons_zero, List.set_cons_succ]
  refine wpAnyH_done rdEnd ?_ _
  go_wp2_with fail
  go_ret
  exact ⟨rfl, hHeld⟩

end Go.Proofs.YbulkdjfsDoor
