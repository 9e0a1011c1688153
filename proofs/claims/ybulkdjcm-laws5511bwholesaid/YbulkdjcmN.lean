/-
  THE ROW: the publishes as they come in, the law at more than 4096 of them, the statement.
-/
import Derived.Test.YbulkdjcmM
import Derived.Deep.Slices
import Derived.ProofKit
import Derived.OpenShut
namespace Go.Proofs.Ybulkdjcm
open Go.ChangeShapes Go.WideShapes Go.ChangeAt Go.RowKit Go.Deep

theorem Yba.own : ownKnob Yba.prog.godebug = none := by kernel_rfl
theorem Yba.laidOut : laidOutB Yba.pinned.checked.prog = true := by kernel_rfl
theorem Yba.cells33 : Yba.prog.cellsOf 33 = 3 := by kernel_rfl
theorem Yba.cells5 : Yba.prog.cellsOf 5 = 1 := by kernel_rfl
theorem Yba.cells30 : Yba.prog.cellsOf 30 = 1 := by kernel_rfl
theorem Yba.cells31 : Yba.prog.cellsOf 31 = 1 := by kernel_rfl

set_option maxRecDepth 100000 in
/-- An argument of type []ZzS5511BEntry, opened, nil or not. -/
theorem view {H : Type} {enc : TypeId × Value → H} {W : World} {fuel : Nat} {a0 : Option Addr} {len cap : Nat} {d : DataW H} {p : List MemPlace}
    (hf : DataW.trod enc Yba.prog W 0 (fun _ => true) true fuel 22 (Value.slice a0 len cap).cells.toList = some (d, p)) : ∃ b off E, E.length = len ∧ Er W a0 b off E := by
  rcases open_slice Yba.underlying22 hf with ⟨hcs, _⟩ | ⟨a, len', cap', m, n, D, Pl, hcs, _, hl, hm, hmm, _, hx⟩
  · simp [Value.cells] at hcs
    obtain ⟨rfl, rfl, rfl⟩ := hcs
    refine ⟨0, 0, [], rfl, fun h => ?_, fun h => ?_, fun j h => ?_, fun j h => ?_, fun j h => ?_, fun j h => ?_, fun j h => ?_, fun j h => ?_⟩ <;> exact absurd h (by simp)
  · simp [Value.cells] at hcs
    obtain ⟨rfl, rfl, rfl⟩ := hcs
    simp only [if_true] at hmm
    have each : ∀ i, i < m → ∃ e : Ent, (W.cell? (a.add (i * 3)) = some (.int .u8 e.1) ∧ W.cell? (a.add (i * 3 + 1)) = some (.int .u16 e.2.1) ∧ W.cell? (a.add (i * 3 + 2)) = some (.int .i16 e.2.2)) ∧ e.1 < 256 ∧ e.2.1 < 65536 ∧ -32768 ≤ e.2.2 ∧ e.2.2 ≤ 32767 := by
      intro i hi
      obtain ⟨cs', h1, h2⟩ := hx i hi
      rw [Yba.cells33] at h1
      obtain ⟨_, hlen, hcell⟩ := World.cells?_some h1
      obtain ⟨xs, k, hk, hxy, _, hxl, hfl⟩ := DataW.trod_struct Yba.underlying33 h2
      match xs, hxl, cs', hlen with
      | [y0, y1, y2], _, [v0, v1, v2], _ =>
        have g0 := hfl 0 _ rfl
        have g1 := hfl 1 _ rfl
        have g2 := hfl 2 _ rfl
        simp [Yba.cells5, Yba.cells30, Yba.cells31] at g0 g1 g2
        obtain ⟨x0, hv0, _, w0⟩ := DataW.trod_int Yba.underlying5 g0
        obtain ⟨x1, hv1, _, w1⟩ := DataW.trod_int Yba.underlying30 g1
        obtain ⟨x2, hv2, _, w2⟩ := DataW.trod_int Yba.underlying31 g2
        simp only [List.cons.injEq, and_true] at hv0 hv1 hv2
        subst hv0
        subst hv1
        subst hv2
        have e0 := hcell 0 (by omega)
        have e1 := hcell 1 (by omega)
        have e2 := hcell 2 (by omega)
        rw [add_add] at e0 e1 e2
        simp at e0 e1 e2
        have r0 : 0 ≤ x0 ∧ x0 ≤ 255 := by
          simpa [Lit.wf, IntKind.min, IntKind.max, IntKind.signed, IntKind.bits] using w0
        have r1 : 0 ≤ x1 ∧ x1 ≤ 65535 := by
          simpa [Lit.wf, IntKind.min, IntKind.max, IntKind.signed, IntKind.bits] using w1
        have r2 : -32768 ≤ x2 ∧ x2 ≤ 32767 := by
          simpa [Lit.wf, IntKind.min, IntKind.max, IntKind.signed, IntKind.bits] using w2
        refine ⟨(x0.toNat, x1.toNat, x2), ⟨?_, ?_, e2⟩, by simp; omega, by simp; omega, r2.1, r2.2⟩
        · rw [e0, Int.toNat_of_nonneg r0.1]
        · rw [e1, Int.toNat_of_nonneg r1.1]
    obtain ⟨q, hq⟩ := choose_lt each
    have hea : ∀ j, j < len → ea ((List.range len).map q) j = q j := fun j hj => ea_some (by simp [hj])
    obtain ⟨b, off, spot⟩ := a
    have hs : 0 < len → spot = none := fun h => by simpa [Addr.add] using World.cell?_spot (hq 0 (by omega)).1.1
    refine ⟨b, off, (List.range len).map q, by simp, fun h => ?_, fun h => ?_, fun j h => ?_, fun j h => ?_, fun j h => ?_, fun j h => ?_, fun j h => ?_, fun j h => ?_⟩
    all_goals simp only [List.length_map, List.length_range] at h
    · rw [hs h]
    · exact World.block_lt_of_cell? _ _ (hq 0 (by omega)).1.1
    all_goals rw [hea j h]
    all_goals obtain ⟨⟨k0, k1, k2⟩, k3, k4, k5⟩ := hq j (by omega)
    · rw [hs (by omega), add_plain] at k0
      exact k0
    · rw [hs (by omega), add_plain] at k1
      exact k1
    · rw [hs (by omega), add_plain] at k2
      exact k2
    · exact k3
    · exact k4
    · exact k5

set_option maxRecDepth 100000 in
theorem law_big (n : Int) (nmask emask c1 len : Nat) (a1 : Option Addr) (w : World) (h : 4096 < len) :
    Calls Yba.prog 3 #[.int .i64 n, .slice a1 len c1, .int .u8 nmask, .int .u8 emask] w fun e w' => e = .returned (.bool true) ∧ Below w.heap.size w w' := by
  have hi : (4096 : Int) < len := by omega
  go_enter Yba.func3, Yba.ntmps3
  go_wp2_with fail
  go_ret
  exact ⟨rfl, Below.refl _ _⟩

/-- The law, as the row asks it. -/
def LawAny : Prop := ∀ (n : Int) (nmask emask b off c1 : Nat) (a1 : Option Addr) (E : List Ent) (w : World), Er w a1 b off E → E.length ≤ 4096 → -9223372036854775808 ≤ n → n ≤ 9223372036854775807 → nmask < 256 → emask < 256 →
    Calls Yba.prog 3 #[.int .i64 n, .slice a1 E.length c1, .int .u8 nmask, .int .u8 emask] w fun e w' => e = .returned (.bool true) ∧ Below w.heap.size w w'

set_option maxRecDepth 100000 in
theorem law_lifted (hlaw : LawAny) (os : Os) (started : os.Started) (H : Type) (enc : TypeId × Value → H) :
    ReturnsInHanded {} Yba.checked os 3 .any (Rows.lawS5511BWholeSpec.pre6 enc Yba.prog Yba.f3 Rows.lawS5511BWholeRow.domain false) (Rows.lawS5511BWholeSpec.post enc Yba.prog Yba.f3 false true false false) := by
  refine returnsInHanded_of_change (C := Yba.checked) Yba.own started (by kernel_rfl) Yba.func3
    (ChangeSpec.witness6 (enc := enc) (C := Yba.checked) false ⟨#[], #[.int .i64 0, .slice none 0 0, .int .u8 0, .int .u8 0], []⟩ 8 (by kernel_rfl) (by kernel_rfl) (by kernel_rfl) (by kernel_rfl)) ?_
  intro W base args ds gs before hval0 hW hcnd _
  have hval : ∀ (j : Nat) t v, Yba.f3.params[j]? = some t → args[j]? = some v → Value.okWide Yba.prog W .any base t v := hval0
  have hW' := hW
  obtain ⟨p, q, hA0, hV, rfl, hfz, hnd⟩ := hW
  have hA : DataW.TrodAll enc Yba.prog W 0 (fun _ => true) true Yba.f3.params.toList args.toList ds p := hA0
  rw [Yba.params3] at hA hval
  obtain ⟨v0, v1, v2, v3, d0, d1, d2, d3, p0, p1, p2, p3, rfl, rfl, rfl, h0, h1, h2, h3⟩ := trodAll_four hA
  obtain ⟨rfl, rfl⟩ := trodVars_none hV
  obtain ⟨n, rfl, rfl, rfl, w0⟩ := open_int Yba.underlying2 (hval 0 2 v0 rfl rfl) h0
  obtain ⟨a1, len, cap, rfl⟩ := okWide_slice Yba.underlying22 (hval 1 22 v1 rfl rfl)
  obtain ⟨x2, rfl, rfl, rfl, w2⟩ := open_int Yba.underlying5 (hval 2 5 v2 rfl rfl) h2
  obtain ⟨x3, rfl, rfl, rfl, w3⟩ := open_int Yba.underlying5 (hval 3 5 v3 rfl rfl) h3
  have h1k := h1
  obtain ⟨f1, hf1⟩ := h1
  clear hA0 hval0
  simp only [List.append_nil] at hW'
  have hlt : ∀ x ∈ p1, x.block < W.heap.size := fun x hx => by simpa using hW'.lt x (by simpa using hx)
  have r0 : -9223372036854775808 ≤ n ∧ n ≤ 9223372036854775807 := by
    simpa [Lit.wf, IntKind.min, IntKind.max, IntKind.signed, IntKind.bits] using w0
  have r2 : 0 ≤ x2 ∧ x2 ≤ 255 := by
    simpa [Lit.wf, IntKind.min, IntKind.max, IntKind.signed, IntKind.bits] using w2
  have r3 : 0 ≤ x3 ∧ x3 ≤ 255 := by
    simpa [Lit.wf, IntKind.min, IntKind.max, IntKind.signed, IntKind.bits] using w3
  obtain ⟨b, off, E, hEl, hE⟩ := view hf1
  have fin : ∀ (e : Ending) (W' : World), (e = .returned (.bool true) ∧ Below W.heap.size W W') →
      ∃ v, e = Ending.returned v ∧ Rows.lawS5511BWholeSpec.post enc Yba.prog Yba.f3 false true false false W #[.int .i64 n, .slice a1 len cap, .int .u8 x2, .int .u8 x3] v W' := by
    rintro e W' ⟨rfl, hnx⟩
    refine ⟨_, rfl, _, _, _, [], [] ++ (p1 ++ ([] ++ ([] ++ []))), [], hW', trodAll_mk1 (shut_bool Yba.underlying4 _), ?_, rfl, hnx.frame _, fun h => by cases h⟩
    exact trodAll_cons_mk (shut_int Yba.underlying2 w0)
      (trodAll_cons_mk (Below.trod Yba.laidOut (by kernel_rfl) (of_decide_eq_true (by kernel_rfl)) h1k hnx hlt)
        (trodAll_cons_mk (shut_int Yba.underlying5 w2) (trodAll_cons_mk (shut_int Yba.underlying5 w3) trodAll_mk0)))
  have e2 : x2 = ((x2.toNat : Nat) : Int) := by omega
  have e3 : x3 = ((x3.toNat : Nat) : Int) := by omega
  by_cases hbig : 4096 < len
  · have := law_big n x2.toNat x3.toNat cap len a1 W hbig
    rw [← e2, ← e3] at this
    exact this.mono fin
  · have := hlaw n x2.toNat x3.toNat b off cap a1 E W hE (by omega) r0.1 r0.2 (by omega) (by omega)
    rw [← e2, ← e3, hEl] at this
    exact this.mono fin

theorem row_of (hlaw : LawAny) : Rows.LawS5511BWholeSaid :=
  OpenClaim.holds_of_wide 3 Yba.f3 rfl rfl rfl rfl rfl rfl rfl ⟨rfl, rfl, rfl, rfl, rfl⟩ rfl rfl rfl rfl rfl (by kernel_rfl) Yba.func3 (by kernel_rfl)
    (of_decide_eq_true (by kernel_rfl)) (by unfold Func.isWrapper; first | (rw [if_pos (by decide +kernel)]; kernel_rfl) | (rw [if_neg (by decide +kernel)]; exact ⟨rfl, rfl⟩))
    (fun os started H enc _ => law_lifted hlaw os started H enc)

end Go.Proofs.Ybulkdjcm
