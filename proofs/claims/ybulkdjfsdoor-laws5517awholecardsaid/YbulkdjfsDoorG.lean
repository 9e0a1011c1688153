import Derived.Test.YbulkdjfsDoorF
namespace Go.Proofs.YbulkdjfsDoor
open Go.RowKit
open Fl (R Out Nan Same)
attribute [local go_sem] run_store_flt

/-- The cells 'vs' laid into 'cells' from 'off' on. -/
def putAt (cells : Array Value) (off : Nat) (vs : Array Value) : Array Value := vs.zipIdx.foldl (fun cs (c, j) => cs.setIfInBounds (off + j) c) cells

theorem putList (off : Nat) : ∀ (vs : List Value) (k : Nat) (cells : Array Value), off + k + vs.length ≤ cells.size →
    ((vs.zipIdx k).foldl (fun cs (c, j) => cs.setIfInBounds (off + j) c) cells).size = cells.size ∧
    ∀ i, ((vs.zipIdx k).foldl (fun cs (c, j) => cs.setIfInBounds (off + j) c) cells)[i]? = if off + k ≤ i ∧ i < off + k + vs.length then vs[i - (off + k)]? else cells[i]?
  | [], k, cells, h => by
    refine ⟨rfl, fun i => ?_⟩
    simp
    intro h1 h2
    omega
  | v :: vs, k, cells, h => by
    simp only [List.length_cons] at h
    obtain ⟨h1, h2⟩ := putList off vs (k + 1) (cells.setIfInBounds (off + k) v) (by simp; omega)
    simp only [List.zipIdx_cons, List.foldl_cons]
    refine ⟨by rw [h1]; simp, fun i => ?_⟩
    rw [h2]
    by_cases e : i = off + k
    · subst e
      rw [if_neg (by omega), if_pos (by simp), Array.getElem?_setIfInBounds]
      simp
      omega
    · by_cases e2 : off + (k + 1) ≤ i ∧ i < off + (k + 1) + vs.length
      · rw [if_pos e2, if_pos (by simp; omega)]
        have : i - (off + k) = i - (off + (k + 1)) + 1 := by omega
        rw [this, List.getElem?_cons_succ]
      · rw [if_neg e2, if_neg (by simp; omega), Array.getElem?_setIfInBounds, if_neg (fun h => e h.symm)]

theorem putAt_spec (cells : Array Value) (off : Nat) (vs : Array Value) (h : off + vs.size ≤ cells.size) :
    (putAt cells off vs).size = cells.size ∧ ∀ i, (putAt cells off vs)[i]? = if off ≤ i ∧ i < off + vs.size then vs[i - off]? else cells[i]? := by
  obtain ⟨vs⟩ := vs
  have := putList off vs 0 cells (by simpa using h)
  unfold putAt
  have e : (Array.mk vs).zipIdx = (vs.zipIdx 0).toArray := by simp
  rw [e, List.foldl_toArray']
  · simpa using this
  · rfl

theorem fill_cons {place : Nat → Option (Nat × Nat)} {cells : Array Value} {i : Nat} {v : Value} {rest : List (Nat × Value)} {off size : Nat} (hp : place i = some (off, size)) (hs : v.cells.size = size) (hb : off + size ≤ cells.size) :
    Instr.fill place cells ((i, v) :: rest) = Instr.fill place (putAt cells off v.cells) rest := by
  rw [Instr.fill, hp]
  simp only
  rw [if_neg (by simp; omega)]
  rfl

theorem z41_run (w : World) : (zeroValue 41).run Ybad.prog w = .ok (.agg (Ybad.t41.zero.getD undef).cells) w := by kernel_rfl
theorem z41_size : (Ybad.t41.zero.getD undef).cells.size = 1289 := by kernel_rfl
theorem z41_0 : (Ybad.t41.zero.getD undef).cells[0]? = some (.int .u64 0) := by kernel_rfl
theorem z41_1 : (Ybad.t41.zero.getD undef).cells[1]? = some (.int .i64 0) := by kernel_rfl
theorem z41_2 : (Ybad.t41.zero.getD undef).cells[2]? = some (.pointer none) := by kernel_rfl
theorem z41_all : ((Ybad.t41.zero.getD undef).cells.toList.drop 3).all (fun v => match v with | .int .u32 0 => true | _ => false) = true := by kernel_rfl

def places43 : Array (Nat × Nat) := #[(0, 2), (2, 1), (3, 2), (5, 2), (7, 1), (8, 3), (11, 3), (14, 1), (15, 1289)]
theorem z43_built (parts : List (Nat × Value)) : Ybad.prog.built 43 parts = Instr.fill (places43[·]?) (Ybad.t43.zero.getD undef).cells parts := by kernel_rfl
theorem z43_size : (Ybad.t43.zero.getD undef).cells.size = 1304 := by kernel_rfl

/-- A demand's cells: a time without a place, then counts. -/
structure DemOK (C : Array Value) (ta tb : Int) : Prop where
  size : C.size = 1289
  c0 : C[0]? = some (.int .u64 ta)
  c1 : C[1]? = some (.int .i64 tb)
  c2 : C[2]? = some (.pointer none)
  u32 : ∀ i, 3 ≤ i → i < 1289 → ∃ x : Nat, x < 4294967296 ∧ C[i]? = some (.int .u32 x)

theorem zero41 : ∃ Z : Array Value, (∀ w, (zeroValue 41).run Ybad.prog w = .ok (.agg Z) w) ∧ DemOK Z 0 0 := by
  refine ⟨_, z41_run, z41_size, z41_0, z41_1, z41_2, fun i h3 hi => ⟨0, by omega, ?_⟩⟩
  have hall := z41_all
  have hsz := z41_size
  generalize (Ybad.t41.zero.getD undef).cells = Z at hall hsz
  have hm : Z.toList[i]? = (Z.toList.drop 3)[i - 3]? := by rw [List.getElem?_drop, show 3 + (i - 3) = i by omega]
  have hlt : i - 3 < (Z.toList.drop 3).length := by simp; omega
  rw [← Array.getElem?_toList, hm, List.getElem?_eq_getElem hlt]
  have := List.all_eq_true.1 hall _ (List.getElem_mem hlt)
  split at this
  · rename_i h; rw [h]; rfl
  · cases this

theorem zero43 : ∃ Z : Array Value, (∀ parts, Ybad.prog.built 43 parts = Instr.fill (places43[·]?) Z parts) ∧ Z.size = 1304 := ⟨_, z43_built, z43_size⟩

/-- A shedder put together out of its fields. -/
theorem build43 (a0 a1 a2 a3 a4 a5 a6 a7 a8 a9 a10 a11 a12 a13 a14 : Value) (C : Array Value) (hC : C.size = 1289) (h2 : a2.cells = #[a2]) (h7 : a7.cells = #[a7]) (h14 : a14.cells = #[a14]) :
    ∃ D, (∀ w, (Instr.build 43 #[(0, .agg #[a0, a1]), (1, a2), (2, .agg #[a3, a4]), (3, .agg #[a5, a6]), (4, a7), (5, .agg #[a8, a9, a10]), (6, .agg #[a11, a12, a13]), (7, a14), (8, .agg C)]).run Ybad.prog w = .ok (.agg D) w) ∧
      D.size = 1304 ∧ D[0]? = some a0 ∧ D[1]? = some a1 ∧ D[2]? = some a2 ∧ D[3]? = some a3 ∧ D[4]? = some a4 ∧ D[5]? = some a5 ∧ D[6]? = some a6 ∧ D[7]? = some a7 ∧ D[8]? = some a8 ∧ D[9]? = some a9 ∧ D[10]? = some a10 ∧
      D[11]? = some a11 ∧ D[12]? = some a12 ∧ D[13]? = some a13 ∧ D[14]? = some a14 ∧ ∀ i, D[15 + i]? = C[i]? := by
  obtain ⟨Z43, built43, size_Z43⟩ := zero43
  obtain ⟨s0, e0⟩ := putAt_spec Z43 0 #[a0, a1] (by simp [size_Z43])
  obtain ⟨s1, e1⟩ := putAt_spec (putAt Z43 0 #[a0, a1]) 2 #[a2] (by simp [s0, size_Z43])
  obtain ⟨s2, e2⟩ := putAt_spec (putAt (putAt Z43 0 #[a0, a1]) 2 #[a2]) 3 #[a3, a4] (by simp [s0, s1, size_Z43])
  obtain ⟨s3, e3⟩ := putAt_spec (putAt (putAt (putAt Z43 0 #[a0, a1]) 2 #[a2]) 3 #[a3, a4]) 5 #[a5, a6] (by simp [s0, s1, s2, size_Z43])
  obtain ⟨s4, e4⟩ := putAt_spec (putAt (putAt (putAt (putAt Z43 0 #[a0, a1]) 2 #[a2]) 3 #[a3, a4]) 5 #[a5, a6]) 7 #[a7] (by simp [s0, s1, s2, s3, size_Z43])
  obtain ⟨s5, e5⟩ := putAt_spec (putAt (putAt (putAt (putAt (putAt Z43 0 #[a0, a1]) 2 #[a2]) 3 #[a3, a4]) 5 #[a5, a6]) 7 #[a7]) 8 #[a8, a9, a10] (by simp [s0, s1, s2, s3, s4, size_Z43])
  obtain ⟨s6, e6⟩ := putAt_spec (putAt (putAt (putAt (putAt (putAt (putAt Z43 0 #[a0, a1]) 2 #[a2]) 3 #[a3, a4]) 5 #[a5, a6]) 7 #[a7]) 8 #[a8, a9, a10]) 11 #[a11, a12, a13] (by simp [s0, s1, s2, s3, s4, s5, size_Z43])
  obtain ⟨s7, e7⟩ := putAt_spec (putAt (putAt (putAt (putAt (putAt (putAt (putAt Z43 0 #[a0, a1]) 2 #[a2]) 3 #[a3, a4]) 5 #[a5, a6]) 7 #[a7]) 8 #[a8, a9, a10]) 11 #[a11, a12, a13]) 14 #[a14] (by simp [s0, s1, s2, s3, s4, s5, s6, size_Z43])
  obtain ⟨s8, e8⟩ := putAt_spec (putAt (putAt (putAt (putAt (putAt (putAt (putAt (putAt Z43 0 #[a0, a1]) 2 #[a2]) 3 #[a3, a4]) 5 #[a5, a6]) 7 #[a7]) 8 #[a8, a9, a10]) 11 #[a11, a12, a13]) 14 #[a14]) 15 C (by simp [s0, s1, s2, s3, s4, s5, s6, s7, size_Z43, hC])
  refine ⟨_, fun w => run_build w 43 _ (putAt (putAt (putAt (putAt (putAt (putAt (putAt (putAt (putAt Z43 0 #[a0, a1]) 2 #[a2]) 3 #[a3, a4]) 5 #[a5, a6]) 7 #[a7]) 8 #[a8, a9, a10]) 11 #[a11, a12, a13]) 14 #[a14]) 15 C) ?_, by simp [s0, s1, s2, s3, s4, s5, s6, s7, s8, size_Z43], ?_⟩
  · rw [built43]
    simp only []
    rw [fill_cons (off := 0) (size := 2) rfl rfl (by simp [size_Z43]), fill_cons (off := 2) (size := 1) rfl (by rw [h2]; rfl) (by simp [s0, size_Z43, Value.cells]), h2]
    rw [fill_cons (off := 3) (size := 2) rfl rfl (by simp [s0, s1, size_Z43, Value.cells]), fill_cons (off := 5) (size := 2) rfl rfl (by simp [s0, s1, s2, size_Z43, Value.cells])]
    rw [fill_cons (off := 7) (size := 1) rfl (by rw [h7]; rfl) (by simp [s0, s1, s2, s3, size_Z43, Value.cells]), h7]
    rw [fill_cons (off := 8) (size := 3) rfl rfl (by simp [s0, s1, s2, s3, s4, size_Z43, Value.cells]), fill_cons (off := 11) (size := 3) rfl rfl (by simp [s0, s1, s2, s3, s4, s5, size_Z43, Value.cells])]
    rw [fill_cons (off := 14) (size := 1) rfl (by rw [h14]; rfl) (by simp [s0, s1, s2, s3, s4, s5, s6, size_Z43, Value.cells]), h14]
    rw [fill_cons (off := 15) (size := 1289) rfl (by simp [Value.cells, hC]) (by simp [s0, s1, s2, s3, s4, s5, s6, s7, size_Z43, Value.cells])]
    rfl
  · refine ⟨?_, ?_, ?_, ?_, ?_, ?_, ?_, ?_, ?_, ?_, ?_, ?_, ?_, ?_, ?_, fun i => ?_⟩
    all_goals try (simp [e0, e1, e2, e3, e4, e5, e6, e7, e8]; done)
    rw [e8]
    by_cases h : i < 1289
    · rw [if_pos (by omega), show 15 + i - 15 = i by omega]
    · rw [if_neg (by omega), Array.getElem?_eq_none (by omega : C.size ≤ i)]
      exact Array.getElem?_eq_none (by omega)

end Go.Proofs.YbulkdjfsDoor
