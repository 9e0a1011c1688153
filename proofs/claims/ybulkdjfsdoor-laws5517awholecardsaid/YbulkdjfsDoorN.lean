import Derived.Test.YbulkdjfsDoorG
import Derived.ChangeKeysEq
namespace Go.Proofs.YbulkdjfsDoor
open Go.RowKit

theorem part36 (xs : Array Value) (i : Nat) (x : Int) (h : xs[i]? = some (.int .u32 x)) (w : World) : (part 36 xs i).run Ybad.prog w = .ok (.int .u32 x) w := by
  simp [part, go_sem, h]

theorem items37 (d : Nat) (xs : Array Value) (w : World) : ∀ (is : List Nat), (∀ i ∈ is, ∃ x, xs[i]? = some (.int .u32 x)) → (Op.eqItems (d + 1) 36 1 xs xs is).run Ybad.prog w = .ok true w
  | [], _ => by simp [Op.eqItems]
  | i :: is, h => by
    obtain ⟨x, hx⟩ := h i (by simp)
    have e := part36 xs i x hx w
    have r := run_equalIn_int (P := Ybad.prog) w d 36 .u32 .u32 x x Ybad.underlying36
    have ih := items37 d xs w is (fun j hj => h j (by simp [hj]))
    simp [Op.eqItems, e, r, ih]

theorem eq37 (d : Nat) (xs : Array Value) (w : World) (h : ∀ i, i < 641 → ∃ x, xs[i]? = some (.int .u32 x)) : (Op.equalIn (d + 2) 37 (.agg xs) (.agg xs)).run Ybad.prog w = .ok true w := by
  have hi : ∃ i, Ybad.prog.info? 36 = some i := by
    cases hq : Ybad.prog.info? 36 with
    | none => have := Ybad.underlying36; simp [Program.underlying, hq] at this
    | some i => exact ⟨i, rfl⟩
  obtain ⟨i, hi⟩ := hi
  have := run_equalIn_array (P := Ybad.prog) w (d + 1) xs xs Ybad.underlying37 hi
  rw [this]
  have hc : Ybad.prog.cellsOf 36 = 1 := by kernel_rfl
  rw [hc]
  exact items37 d xs w _ (fun i hi => h i (by simpa using hi))

theorem part37 (xs : Array Value) (w : World) : (part 37 xs 0).run Ybad.prog w = .ok (.agg (xs.extract 0 641)) w := by
  simp [part, go_sem]
theorem part39 (xs : Array Value) (o : Nat) (w : World) : (part 39 xs o).run Ybad.prog w = .ok (.agg (xs.extract o (o + 643))) w := by
  simp [part, go_sem]
theorem part34 (xs : Array Value) (w : World) : (part 34 xs 0).run Ybad.prog w = .ok (.agg (xs.extract 0 3)) w := by
  simp [part, go_sem]

theorem eqF_cons {d : Nat} {xs : Array Value} {f : Field} {fs : List Field} {a : Value} {w : World} (hn : ¬ f.name = "_") (ha : (part f.type xs f.offset).run Ybad.prog w = .ok a w) (hr : (Op.equalIn d f.type a a).run Ybad.prog w = .ok true w)
    (hrest : (Op.eqFields d xs xs fs).run Ybad.prog w = .ok true w) : (Op.eqFields d xs xs (f :: fs)).run Ybad.prog w = .ok true w := by
  simp [Op.eqFields, hn, ha, hr, hrest]

theorem eq36 (d : Nat) (x : Int) (w : World) : (Op.equalIn (d + 2) 36 (.int .u32 x) (.int .u32 x)).run Ybad.prog w = .ok true w := by
  have := run_equalIn_int (P := Ybad.prog) w (d + 1) 36 .u32 .u32 x x Ybad.underlying36
  rw [this, beq_self_eq_true]

theorem eq39 (d : Nat) (xs : Array Value) (w : World) (h : ∀ i, i < 643 → ∃ x, xs[i]? = some (.int .u32 x)) : (Op.equalIn (d + 3) 39 (.agg xs) (.agg xs)).run Ybad.prog w = .ok true w := by
  have e0 := part37 xs w
  have r0 := eq37 d (xs.extract 0 641) w (fun i hi => by
    obtain ⟨x, hx⟩ := h i (by omega)
    refine ⟨x, ?_⟩
    have hs : i < xs.size := (Array.getElem?_eq_some_iff.1 hx).1
    rw [Array.getElem?_extract, if_pos (by omega), Nat.zero_add]
    exact hx)
  obtain ⟨x1, h1⟩ := h 641 (by omega)
  obtain ⟨x2, h2⟩ := h 642 (by omega)
  have e1 := part36 xs 641 x1 h1 w
  have e2 := part36 xs 642 x2 h2 w
  have r1 := eq36 d x1 w
  have r2 := eq36 d x2 w
  have hs := run_equalIn_struct (P := Ybad.prog) w (d + 2) 39 xs xs (by kernel_rfl) (by kernel_rfl)
  rw [hs]
  have hf : (Ybad.prog.fieldsOf 39).toList.map (fun f => (decide (f.name = "_"), f.type, f.offset)) = [(false, 37, 0), (false, 36, 641), (false, 36, 642)] := by kernel_rfl
  generalize (Ybad.prog.fieldsOf 39).toList = fs at hf
  have hl : fs.length = 3 := by simpa using congrArg List.length hf
  match fs, hl with
  | [f0, f1, f2], _ =>
    simp only [List.map_cons, List.map_nil, List.cons.injEq, Prod.mk.injEq, decide_eq_false_iff_not, and_true] at hf
    obtain ⟨⟨n0, t0, o0⟩, ⟨n1, t1, o1⟩, ⟨n2, t2, o2⟩⟩ := hf
    refine eqF_cons n0 (by rw [t0, o0]; exact e0) (by rw [t0]; exact r0) (eqF_cons n1 (by rw [t1, o1]; exact e1) (by rw [t1]; exact r1) (eqF_cons n2 (by rw [t2, o2]; exact e2) (by rw [t2]; exact r2) ?_))
    simp [Op.eqFields]

theorem eq34 (d : Nat) (a b : Int) (w : World) : (Op.equalIn (d + 2) 34 (.agg #[.int .u64 a, .int .i64 b, .pointer none]) (.agg #[.int .u64 a, .int .i64 b, .pointer none])).run Ybad.prog w = .ok true w := by
  have h : (Op.equalIn (d + 1) 32 (.pointer none) (.pointer none)).run Ybad.prog w = .ok true w := by
    unfold Op.equalIn
    simp [Ybad.runUnderlying32]
  simp [go_sem, h]

theorem eq41 (d : Nat) (C : Array Value) (ta tb : Int) (hC : DemOK C ta tb) (w : World) : (Op.equalIn (d + 4) 41 (.agg C) (.agg C)).run Ybad.prog w = .ok true w := by
  have x0 : C.extract 0 3 = #[.int .u64 ta, .int .i64 tb, .pointer none] := by
    apply Array.ext_getElem?
    intro i
    rw [Array.getElem?_extract, hC.size]
    match i with
    | 0 => simpa using hC.c0
    | 1 => simpa using hC.c1
    | 2 => simpa using hC.c2
    | i + 3 => simp; omega
  have e0 := part34 C w
  rw [x0] at e0
  have r0 := eq34 (d + 1) ta tb w
  have g : ∀ o, 3 ≤ o → o + 643 ≤ 1289 → ∀ i, i < 643 → ∃ x, (C.extract o (o + 643))[i]? = some (.int .u32 x) := fun o h3 ho i hi => by
    obtain ⟨x, _, hx⟩ := hC.u32 (o + i) (by omega) (by omega)
    refine ⟨x, ?_⟩
    rw [Array.getElem?_extract, if_pos (by rw [hC.size]; omega)]
    exact hx
  have e1 := part39 C 3 w
  have r1 := eq39 d (C.extract 3 (3 + 643)) w (g 3 (by omega) (by omega))
  have e2 := part39 C 646 w
  have r2 := eq39 d (C.extract 646 (646 + 643)) w (g 646 (by omega) (by omega))
  have hs := run_equalIn_struct (P := Ybad.prog) w (d + 3) 41 C C (by kernel_rfl) (by kernel_rfl)
  rw [hs]
  have hf : (Ybad.prog.fieldsOf 41).toList.map (fun f => (decide (f.name = "_"), f.type, f.offset)) = [(false, 34, 0), (false, 39, 3), (false, 39, 646)] := by kernel_rfl
  generalize (Ybad.prog.fieldsOf 41).toList = fs at hf
  have hl : fs.length = 3 := by simpa using congrArg List.length hf
  match fs, hl with
  | [f0, f1, f2], _ =>
    simp only [List.map_cons, List.map_nil, List.cons.injEq, Prod.mk.injEq, decide_eq_false_iff_not, and_true] at hf
    obtain ⟨⟨n0, t0, o0⟩, ⟨n1, t1, o1⟩, ⟨n2, t2, o2⟩⟩ := hf
    refine eqF_cons n0 (by rw [t0, o0]; exact e0) (by rw [t0]; exact r0) (eqF_cons n1 (by rw [t1, o1]; exact e1) (by rw [t1]; exact r1) (eqF_cons n2 (by rw [t2, o2]; exact e2) (by rw [t2]; exact r2) ?_))
    simp [Op.eqFields]

theorem run_eq_dem (C : Array Value) (ta tb : Int) (hC : DemOK C ta tb) (w : World) : (binOp .eql 41 (.agg C) (.agg C)).run Ybad.prog w = .ok (.bool true) w := by
  rw [run_eql_struct]
  have h := eq41 9996 C ta tb hC w
  generalize hd : (9996 + 4 : Nat) = dd at h
  have hd' : 10000 = dd := hd
  rw [hd', h]
  rfl

end Go.Proofs.YbulkdjfsDoor
