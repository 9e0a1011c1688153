/-
  THE CARD OF 'ring.LawS5518BWhole': fmt's texts told (the road never comes to fmt); the listed tables tied (the road never reads them).
-/
import Derived.Test.YbulkdjggFmtL
import Derived.Test.YbulkdjggFmtCards
import Derived.Test.YbulkdjggFmtTie
import Derived.ProofKit
import Derived.OpenShut
import Derived.SizedLaws
import Derived.SliceStrings
import Derived.Deep.Slices
import Derived.Stop.JoinedAt
import Derived.Stop.JoinedTold
import Derived.SevenToldRow
import Derived.SevenTiedAt
namespace Go.Proofs.YbulkdjggFmt
open Go.ChangeShapes Go.WideShapes Go.ChangeAt Go.RowKit
open Go.Extern.Stop Go.Stop Go.Extern

theorem Ybaf.own : ownKnob Ybaf.prog.godebug = none := by kernel_rfl
theorem Ybaf.laidOut : laidOutB Ybaf.pinned.checked.prog = true := by kernel_rfl
theorem Ybaf.cells25 : Ybaf.prog.cellsOf 25 = 1 := by kernel_rfl
theorem Ybaf.cells28 : Ybaf.prog.cellsOf 28 = 1 := by kernel_rfl
theorem Ybaf.cells9 : Ybaf.prog.cellsOf 9 = 1 := by kernel_rfl
theorem Ybaf.bytes28 : Ybaf.prog.bytesOf 28 = 8 := by kernel_rfl

theorem wfu64 {n : Int} (h : (Lit.int .u64 n).wf = true) : 0 ≤ n := by
  simp [Lit.wf] at h
  have h1 : IntKind.u64.min = 0 := by decide
  omega
theorem wfu8 {n : Int} (h : (Lit.int .u8 n).wf = true) : 0 ≤ n ∧ n ≤ 255 := by
  simp [Lit.wf] at h
  have h1 : IntKind.u8.min = 0 := by decide
  have h2 : IntKind.u8.max = 255 := by decide
  omega

section
variable {H : Type} {enc : TypeId × Value → H} {W : World}

theorem plain_addr {a : Addr} {v : Value} (h : W.cell? (a.add 0) = some v) : ∃ b o, a = ⟨b, o, none⟩ := by
  obtain ⟨b, off, spot⟩ := a
  have hspot : spot = none := by simpa [Addr.add] using World.cell?_spot h
  subst hspot
  exact ⟨b, off, rfl⟩

/-- A row handed in, opened. -/
theorem row_view {fuel : Nat} {v : Value} {d : DataW H} {p : List MemPlace} (hf : DataW.trod enc Ybaf.prog W 0 (fun _ => true) true fuel 25 [v] = some (d, p)) :
    ∃ xs, RowIn W v xs ∧ (d = .nil ∧ xs = [] ∨ ∃ es sp, d = .slice es sp ∧ es.length = xs.length) := by
  rcases open_ints Ybaf.underlying25 Ybaf.underlying28 Ybaf.cells28 hf with ⟨hcs, hx⟩ | ⟨a, len, cap, zs, hcs, _, hl, hm, hz, hx, hcell, hwz⟩
  · simp only [List.cons.injEq, and_true] at hcs
    subst hcs
    simp only [Prod.mk.injEq] at hx
    exact ⟨[], ⟨none, 0, rfl, fun h => by simp at h⟩, .inl ⟨hx.1, rfl⟩⟩
  · simp only [List.cons.injEq, and_true] at hcs
    subst hcs
    simp only [Prod.mk.injEq] at hx
    simp only [if_true] at hz
    have hlz : len ≤ zs.length := by omega
    refine ⟨(zs.take len).map Int.toNat, ⟨some a, cap, by simp [Nat.min_eq_left hlz], fun h0 => ?_⟩, .inr ⟨_, _, hx.1, by simp [lits]⟩⟩
    have hl0 : 0 < len := by simpa [Nat.min_eq_left hlz] using h0
    obtain ⟨b, o, rfl⟩ := plain_addr (hcell 0 (by omega))
    refine ⟨b, o, rfl, fun j hj => ?_⟩
    have hj' : j < len := by simpa [Nat.min_eq_left hlz] using hj
    have hjz : j < zs.length := by omega
    have h1 := hcell j hjz
    rw [add_at] at h1
    rw [h1]
    have h2 := wfu64 (hwz _ (List.getElem_mem hjz))
    have e1 : zs.getD j 0 = zs[j] := by simp [List.getD_eq_getElem?_getD, hjz]
    have e2 : ((zs.take len).map Int.toNat).getD j 0 = zs[j].toNat := by
      simp [List.getD_eq_getElem?_getD, hj', hjz]
    rw [e1, e2, Int.toNat_of_nonneg h2]

/-- The placement handed in, opened. -/
theorem placed_view {fuel : Nat} {pa : Option Addr} {P pc : Nat} {d : DataW H} {p : List MemPlace} (hf : DataW.trod enc Ybaf.prog W 0 (fun _ => true) true fuel 22 [.slice pa P pc] = some (d, p)) (hs : (d.weights Ybaf.prog 22).all (· ≤ reachBytes) = true) :
    ∃ X, PlIn W pa X ∧ X.length = P ∧ P ≤ maxLen ∧ ∀ i, (X.getD i []).length ≤ 140737488355328 := by
  rcases Deep.open_slice1 Ybaf.underlying22 Ybaf.cells25 hf with ⟨hcs, hx⟩ | ⟨a, len, cap, m, n, V, D, Pl, hcs, _, hl, hm, hmm, hx, hcell⟩
  · simp only [List.cons.injEq, and_true, Value.slice.injEq] at hcs
    obtain ⟨rfl, rfl, rfl⟩ := hcs
    exact ⟨[], fun h => by simp at h, rfl, Nat.zero_le _, fun i => by simp⟩
  · simp only [List.cons.injEq, and_true, Value.slice.injEq] at hcs
    obtain ⟨rfl, rfl, rfl⟩ := hcs
    simp only [if_true] at hmm
    subst hmm
    simp only [Prod.mk.injEq] at hx
    obtain ⟨rfl, rfl⟩ := hx
    obtain ⟨f, hf'⟩ := Deep.choose_lt (n := P) (p := fun i xs => RowIn W (V i) xs ∧ xs.length ≤ 140737488355328) (fun i hi => by
      obtain ⟨xs, h1, h2⟩ := row_view (hcell i (by omega)).2
      refine ⟨xs, h1, ?_⟩
      rcases h2 with ⟨_, rfl⟩ | ⟨es, sp, h2, h3⟩
      · simp
      · have hw : (es.length + sp.length) * 8 ∈ DataW.weights Ybaf.prog 22 (.slice ((List.range P).map D) ((List.range (m - P)).map fun j => D (P + j))) := by
          have hmem : ∀ (l : List (DataW H)) (x : DataW H), x ∈ l → ∀ k ∈ x.weights Ybaf.prog 25, k ∈ DataW.weightsAll Ybaf.prog 25 l := by
            intro l
            induction l with
            | nil => intro x hx; simp at hx
            | cons y r ih =>
              intro x hx k hk
              simp only [DataW.weightsAll, List.mem_append]
              rcases List.mem_cons.1 hx with rfl | hx
              · exact Or.inl hk
              · exact Or.inr (ih x hx k hk)
          have h4 : (es.length + sp.length) * 8 ∈ (D i).weights Ybaf.prog 25 := by
            rw [h2]; simp [DataW.weights, Ybaf.underlying25, Ybaf.bytes28]
          simp only [DataW.weights, Ybaf.underlying22, List.mem_cons, List.mem_append]
          exact Or.inr (Or.inl (hmem _ (D i) (List.mem_map.2 ⟨i, List.mem_range.2 hi, rfl⟩) _ h4))
        have h5 := List.all_eq_true.1 hs _ hw
        simp only [decide_eq_true_eq] at h5
        have h6 := reachBytes_lt
        omega)
    have hget : ∀ i, i < P → ((List.range P).map f).getD i [] = f i := fun i hi => by simp [List.getD_eq_getElem?_getD, hi]
    refine ⟨(List.range P).map f, fun h0 => ?_, by simp, by omega, fun i => ?_⟩
    · have h0' : 0 < P := by simpa using h0
      obtain ⟨b, o, rfl⟩ := plain_addr (hcell 0 (by omega)).1
      refine ⟨b, o, rfl, fun i hi => ?_⟩
      have hi' : i < P := by simpa using hi
      have h1 := (hcell i (by omega)).1
      rw [add_at] at h1
      rw [hget i hi']
      exact ⟨V i, h1, (hf' i hi').1⟩
    · rcases Nat.lt_or_ge i P with hi | hi
      · rw [hget i hi]; exact (hf' i hi).2
      · simp [List.getD_eq_getElem?_getD, hi]

/-- The keys handed in, opened. -/
theorem keys_view {fuel : Nat} {ka : Option Addr} {K kc : Nat} {d : DataW H} {p : List MemPlace} (hf : DataW.trod enc Ybaf.prog W 0 (fun _ => true) true fuel 23 [.slice ka K kc] = some (d, p)) :
    ∃ ks, Strs W ka ks ∧ ks.length = K ∧ K ≤ maxLen ∧ ∀ s ∈ ks, s.size ≤ maxLen := by
  rcases open_strings Ybaf.underlying23 Ybaf.underlying9 Ybaf.cells9 hf with ⟨hcs, hx⟩ | ⟨a, len, cap, ss, hcs, _, hl, hm, hz, hx, hcell, hsz⟩
  · simp only [List.cons.injEq, and_true, Value.slice.injEq] at hcs
    obtain ⟨rfl, rfl, rfl⟩ := hcs
    exact ⟨[], fun h => by simp at h, rfl, Nat.zero_le _, by simp⟩
  · simp only [List.cons.injEq, and_true, Value.slice.injEq] at hcs
    obtain ⟨rfl, rfl, rfl⟩ := hcs
    simp only [if_true] at hz
    have hK : K ≤ ss.length := by omega
    refine ⟨ss.take K, fun h0 => ?_, by simp [Nat.min_eq_left hK], by omega, fun s hs => hsz s (List.mem_of_mem_take hs)⟩
    have h0' : 0 < K := by simpa [Nat.min_eq_left hK] using h0
    obtain ⟨b, o, rfl⟩ := plain_addr (hcell 0 (by omega))
    refine ⟨b, o, rfl, fun j hj => ?_⟩
    have hj' : j < K := by simpa [Nat.min_eq_left hK] using hj
    have hjs : j < ss.length := by omega
    have h1 := hcell j hjs
    rw [add_at] at h1
    rw [h1]
    simp [List.getD_eq_getElem?_getD, hj', hjs]
end


/-- A block's cells, laid. -/
def setC (cs : Array Value) : Obj → Obj
  | .cells _ t frozen => .cells cs t frozen
  | o => o
/-- The listed tables. -/
def tab10 : Array Value := #[.int .u64 1, .int .u64 10, .int .u64 100, .int .u64 1000, .int .u64 10000, .int .u64 100000, .int .u64 1000000, .int .u64 10000000, .int .u64 100000000, .int .u64 1000000000, .int .u64 10000000000, .int .u64 100000000000, .int .u64 1000000000000, .int .u64 10000000000000, .int .u64 100000000000000, .int .u64 1000000000000000, .int .u64 10000000000000000, .int .u64 100000000000000000, .int .u64 1000000000000000000, .int .u64 10000000000000000000]
def tab32 : Array Value := #[.int .u8 0, .int .u8 1, .int .u8 28, .int .u8 2, .int .u8 29, .int .u8 14, .int .u8 24, .int .u8 3, .int .u8 30, .int .u8 22, .int .u8 20, .int .u8 15, .int .u8 25, .int .u8 17, .int .u8 4, .int .u8 8, .int .u8 31, .int .u8 27, .int .u8 13, .int .u8 23, .int .u8 21, .int .u8 19, .int .u8 16, .int .u8 7, .int .u8 26, .int .u8 12, .int .u8 18, .int .u8 6, .int .u8 11, .int .u8 5, .int .u8 10, .int .u8 9]
def tab64 : Array Value := #[.int .u8 0, .int .u8 1, .int .u8 56, .int .u8 2, .int .u8 57, .int .u8 49, .int .u8 28, .int .u8 3, .int .u8 61, .int .u8 58, .int .u8 42, .int .u8 50, .int .u8 38, .int .u8 29, .int .u8 17, .int .u8 4, .int .u8 62, .int .u8 47, .int .u8 59, .int .u8 36, .int .u8 45, .int .u8 43, .int .u8 51, .int .u8 22, .int .u8 53, .int .u8 39, .int .u8 33, .int .u8 30, .int .u8 24, .int .u8 18, .int .u8 12, .int .u8 5, .int .u8 63, .int .u8 55, .int .u8 48, .int .u8 27, .int .u8 60, .int .u8 41, .int .u8 37, .int .u8 16, .int .u8 46, .int .u8 35, .int .u8 44, .int .u8 21, .int .u8 52, .int .u8 32, .int .u8 23, .int .u8 11, .int .u8 54, .int .u8 26, .int .u8 40, .int .u8 15, .int .u8 34, .int .u8 20, .int .u8 31, .int .u8 10, .int .u8 25, .int .u8 14, .int .u8 19, .int .u8 9, .int .u8 13, .int .u8 8, .int .u8 7, .int .u8 6]
/-- A world whose listed tables hold what the row lists. -/
noncomputable def laidWorld (os : Os) : World :=
  let w0 := World.holding Ybaf.prog os ⟨#[], #[], []⟩
  { w0 with heap := ((w0.heap.modify 0 (setC tab10)).modify 1 (setC tab32)).modify 2 (setC tab64) }

theorem laid_met (os : Os) (args : Array Value) : laidMet Ybaf.prog Rows.lawS5518BWholeRow.laid ((laidWorld os).forCall (fun _ _ => 0) ⟨#[], args, []⟩).memory :=
  laidMet_of_run (ps := (List.range 32).map (fun i => .cell 1 i) ++ (List.range 64).map (fun i => .cell 2 i) ++ (List.range 20).map (fun i => .cell 0 i)) 8 (by kernel_rfl) (by kernel_rfl) (by kernel_rfl)

theorem trodAll_five {H : Type} {enc : TypeId × Value → H} {P : Program} {w : World} {base : Nat} {spare : Nat → Bool} {held : Bool} {t0 t1 t2 t3 t4 : TypeId} {args : Array Value} {ds : List (DataW H)} {ps : List MemPlace} (h : DataW.TrodAll enc P w base spare held [t0, t1, t2, t3, t4] args.toList ds ps) :
    ∃ v0 v1 v2 v3 v4 d0 d1 d2 d3 d4 p0 p1 p2 p3 p4, args = #[v0, v1, v2, v3, v4] ∧ ds = [d0, d1, d2, d3, d4] ∧ ps = p0 ++ (p1 ++ (p2 ++ (p3 ++ (p4 ++ [])))) ∧ DataW.Trod enc P w base spare held t0 v0 d0 p0 ∧ DataW.Trod enc P w base spare held t1 v1 d1 p1 ∧ DataW.Trod enc P w base spare held t2 v2 d2 p2 ∧ DataW.Trod enc P w base spare held t3 v3 d3 p3 ∧ DataW.Trod enc P w base spare held t4 v4 d4 p4 := by
  obtain ⟨v0, vs0, d0, ds0, p0, q0, hargs, rfl, rfl, hd0, hr0⟩ := trodAll_cons h
  obtain ⟨v1, vs1, d1, ds1, p1, q1, rfl, rfl, rfl, hd1, hr1⟩ := trodAll_cons hr0
  obtain ⟨v2, vs2, d2, ds2, p2, q2, rfl, rfl, rfl, hd2, hr2⟩ := trodAll_cons hr1
  obtain ⟨v3, vs3, d3, ds3, p3, q3, rfl, rfl, rfl, hd3, hr3⟩ := trodAll_cons hr2
  obtain ⟨v4, vs4, d4, ds4, p4, q4, rfl, rfl, rfl, hd4, hr4⟩ := trodAll_cons hr3
  obtain ⟨rfl, rfl, rfl⟩ := trodAll_nil hr4
  exact ⟨v0, v1, v2, v3, v4, d0, d1, d2, d3, d4, p0, p1, p2, p3, p4, by cases args; simp_all, rfl, rfl, hd0, hd1, hd2, hd3, hd4⟩

set_option maxRecDepth 100000 in
theorem law_lifted (os : Os) (started : os.Started) (H : Type) (enc : TypeId × Value → H) :
    ReturnsInTold none {} Ybaf.checked os 3 .any Input.okWide ((OpenSpec.ofChange Rows.lawS5518BWholeSpec).preRow enc Ybaf.prog Ybaf.f3 [] false Rows.lawS5518BWholeRow.laid)
      (fun F => ((OpenSpec.ofChange Rows.lawS5518BWholeSpec).at F).post enc Ybaf.prog Ybaf.f3 false true false false) (aloneAtReturn Ybaf.prog) nothingAlways := by
  refine returnsInTold_of_row (C := Ybaf.checked) (s := OpenSpec.ofChange Rows.lawS5518BWholeSpec) (by kernel_rfl) Ybaf.own started (by kernel_rfl) Ybaf.func3
    (OpenSpec.witness_stopped_at (enc := enc) (C := Ybaf.checked) false (laidWorld os) #[.int .u8 0, .int .u8 0, .slice none 0 0, .int .u8 0, .slice none 0 0] rfl (by kernel_rfl) (by kernel_rfl) (by kernel_rfl)
      (OpenSpec.preRow_of_B rfl 8 (by kernel_rfl) (by kernel_rfl) (laid_met os _))) ?_
  intro F W base args ds gs before _ hF hval0 hW _ _ hsz0 _ _
  have hsz : (DataW.weightsEach Ybaf.prog (Ybaf.f3.params.toList ++ (OpenSpec.ofChange Rows.lawS5518BWholeSpec).bare.plain.varTypes Ybaf.prog) (ds ++ gs)).all (· ≤ reachBytes) = true := hsz0
  clear hsz0
  have hval : ∀ (j : Nat) t v, Ybaf.f3.params[j]? = some t → args[j]? = some v → Value.okWide Ybaf.prog W .any base t v := hval0
  have hW' := hW
  obtain ⟨p, q, hA0, hV, rfl, _, _⟩ := hW
  have hA : DataW.TrodAll enc Ybaf.prog W 0 (fun _ => true) true Ybaf.f3.params.toList args.toList ds p := hA0
  rw [Ybaf.params3] at hA hval hsz
  obtain ⟨v0, v1, v2, v3, v4, d0, d1, d2, d3, d4, p0, p1, p2, p3, p4, rfl, rfl, rfl, h0, h1, h2, h3, h4⟩ := trodAll_five hA
  obtain ⟨rfl, rfl⟩ := trodVars_none hV
  obtain ⟨n0, rfl, rfl, rfl, w0⟩ := open_int Ybaf.underlying5 (hval 0 5 v0 rfl rfl) h0
  obtain ⟨n1, rfl, rfl, rfl, w1⟩ := open_int Ybaf.underlying5 (hval 1 5 v1 rfl rfl) h1
  obtain ⟨pa, P, pc, rfl⟩ := okWide_slice Ybaf.underlying22 (hval 2 22 v2 rfl rfl)
  obtain ⟨n3, rfl, rfl, rfl, w3⟩ := open_int Ybaf.underlying5 (hval 3 5 v3 rfl rfl) h3
  obtain ⟨ka, K, kc, rfl⟩ := okWide_slice Ybaf.underlying23 (hval 4 23 v4 rfl rfl)
  have h2k := h2
  have h4k := h4
  obtain ⟨f2, hf2⟩ := h2
  obtain ⟨f4, hf4⟩ := h4
  simp only [List.append_nil] at hW'
  have hlt : ∀ x ∈ p2 ++ p4, x.block < W.heap.size := fun x hx => by simpa using hW'.lt x (by simpa using hx)
  have hs2 : (d2.weights Ybaf.prog 22).all (· ≤ reachBytes) = true := List.all_eq_true.2 (fun k hk => List.all_eq_true.1 hsz k (DataW.weights_mem_each (j := 2) (t := 22) rfl rfl k hk))
  obtain ⟨X, hX, hP, hP64, hXl⟩ := placed_view (pa := pa) (P := P) (pc := pc) (by simpa [Value.cells] using hf2) hs2
  obtain ⟨ks, hk, hK, hK64, hks⟩ := keys_view (ka := ka) (K := K) (kc := kc) (by simpa [Value.cells] using hf4)
  obtain ⟨a0, rfl⟩ := Int.eq_ofNat_of_zero_le (wfu8 w0).1
  obtain ⟨a1, rfl⟩ := Int.eq_ofNat_of_zero_le (wfu8 w1).1
  obtain ⟨a3, rfl⟩ := Int.eq_ofNat_of_zero_le (wfu8 w3).1
  have b0 := (wfu8 w0).2
  have b1 := (wfu8 w1).2
  have b3 := (wfu8 w3).2
  refine (law_any a0 a1 a3 P pc K kc pa ka X ks W hX hP hP64 hXl hk hK hK64 hks (by omega) (by omega) (by omega)).mono ?_
  rintro e W' ⟨rfl, hnx⟩
  refine ⟨_, rfl, _, _, _, [], [] ++ ([] ++ (p2 ++ ([] ++ (p4 ++ [])))), [], hW', trodAll_mk1 (shut_bool Ybaf.underlying4 _), ?_, rfl, hnx.frame _, fun h => by cases h⟩
  exact trodAll_cons_mk (shut_int Ybaf.underlying5 w0)
    (trodAll_cons_mk (shut_int Ybaf.underlying5 w1)
      (trodAll_cons_mk (Below.trod Ybaf.laidOut (by kernel_rfl) (of_decide_eq_true (by kernel_rfl)) h2k hnx (fun x hx => hlt x (by simp [hx])))
        (trodAll_cons_mk (shut_int Ybaf.underlying5 w3)
          (trodAll_cons_mk (Below.trod Ybaf.laidOut (by kernel_rfl) (of_decide_eq_true (by kernel_rfl)) h4k hnx (fun x hx => hlt x (by simp [hx]))) trodAll_mk0))))

theorem Ybaf.stops : Ybaf.pinned.checked.prog.stops = ["fmt.errorf"] := by kernel_rfl
theorem Ybaf.stopKnobs : Ybaf.pinned.checked.prog.stopKnobs = [] := by kernel_rfl
theorem Ybaf.quiet (os : Os) : Stop.quiet Ybaf.pinned.checked.prog os := by
  intro k hk
  rw [Ybaf.stopKnobs] at hk
  cases hk

/-- THE STATEMENT. -/
theorem lawS5518BWhole_told : Rows.LawS5518BWholeToldSaid :=
  Claim7.holds_of_told_tied_any_at .later 3 Ybaf.f3 "fmt.errorf" [] [] _ _ _ _ _ (by kernel_rfl) rfl rfl rfl Ybaf.laidOut (by kernel_rfl) rfl ⟨rfl, rfl, rfl, rfl, rfl, rfl, rfl⟩ rfl rfl (by kernel_rfl) (by kernel_rfl) Ybaf.func3 (by kernel_rfl)
    (of_decide_eq_true (by kernel_rfl)) (by unfold Func.isWrapper; first | (rw [if_pos (by decide +kernel)]; kernel_rfl) | (rw [if_neg (by decide +kernel)]; exact ⟨rfl, rfl⟩)) Ybaf.stops.symm rfl Ybaf.stopKnobs.symm (by kernel_rfl)
    (by kernel_rfl) (by kernel_rfl) (by kernel_rfl) (by kernel_rfl) (by kernel_rfl) (by kernel_rfl) (by kernel_rfl) (by kernel_rfl) (by kernel_rfl) rfl (by kernel_rfl) rfl rfl
    rfl rfl
    rfl (by kernel_rfl) (by kernel_rfl) (by kernel_rfl) (by decide) (by kernel_rfl) lawS5518BWhole_row_tie
    (OpenClaim.moreEntering_of (by kernel_rfl) (by kernel_rfl) (by kernel_rfl) (by kernel_rfl) (by kernel_rfl) (by kernel_rfl) (by kernel_rfl) (by kernel_rfl) (by kernel_rfl) (by kernel_rfl))
    ⟨_, WideRow.started_initial, Ybaf.quiet _⟩
    (fun os started _ H enc _ => law_lifted os started H enc)

end Go.Proofs.YbulkdjggFmt
