/-
  THE CARD OF 'causeway.LawS5513CWhole': fmt's texts told (the road never comes to fmt: every bound list that the law builds is in order).
-/
import Derived.Test.YbulkdjdoFmtI
import Derived.Test.YbulkdjdoFmtCards
import Derived.ProofKit
import Derived.OpenShut
import Derived.SizedLaws
import Derived.Stop.JoinedAt
import Derived.Stop.JoinedTold
import Derived.SevenToldRow
namespace Go.Proofs.YbulkdjdoFmt
open Go.ChangeShapes Go.WideShapes Go.ChangeAt Go.RowKit
open Go.Extern.Stop Go.Stop Go.Extern

theorem Ybaf.own : ownKnob Ybaf.prog.godebug = none := by kernel_rfl
theorem Ybaf.laidOut : laidOutB Ybaf.pinned.checked.prog = true := by kernel_rfl
theorem Ybaf.cells5 : Ybaf.prog.cellsOf 5 = 1 := by kernel_rfl
theorem Ybaf.bytes5 : Ybaf.prog.bytesOf 5 = 1 := by kernel_rfl

/-- An argument of type []uint8, opened, nil or not. -/
theorem view {H : Type} {enc : TypeId × Value → H} {W : World} {fuel : Nat} {a0 : Option Addr} {len cap : Nat} {d : DataW H} {p : List MemPlace}
    (hf : DataW.trod enc Ybaf.prog W 0 (fun _ => true) true fuel 22 (Value.slice a0 len cap).cells.toList = some (d, p)) :
    Arg8 W (.slice a0 len cap) len ∧ (d = .nil ∧ len = 0 ∨ ∃ es sp, d = .slice es sp ∧ es.length = len) := by
  rcases open_ints Ybaf.underlying22 Ybaf.underlying5 Ybaf.cells5 hf with ⟨hcs, hx⟩ | ⟨a, len', cap', zs, hcs, _, hl, hm, hz, hx, hcell, hwz⟩
  · simp [Value.cells] at hcs
    obtain ⟨rfl, rfl, rfl⟩ := hcs
    simp only [Prod.mk.injEq] at hx
    obtain ⟨rfl, rfl⟩ := hx
    exact ⟨⟨_, _, rfl, .inl rfl⟩, .inl ⟨rfl, rfl⟩⟩
  · simp [Value.cells] at hcs
    obtain ⟨rfl, rfl, rfl⟩ := hcs
    simp only [Prod.mk.injEq] at hx
    obtain ⟨rfl, rfl⟩ := hx
    simp only [if_true] at hz
    refine ⟨⟨_, _, rfl, ?_⟩, .inr ⟨_, _, rfl, by simp [lits]; omega⟩⟩
    by_cases h0 : len = 0
    · exact .inl h0
    · obtain ⟨b, off, rfl, hc⟩ := ints_at hcell (by omega)
      refine .inr ⟨b, off, zs, rfl, World.block_lt_of_cell? _ _ (hc 0 (by omega)), fun j hj => hc j (by omega), fun j => ?_⟩
      have := range_u8 hwz j
      simpa [List.getD_eq_getElem?_getD] using this

set_option maxRecDepth 100000 in
theorem law_lifted (os : Os) (started : os.Started) (H : Type) (enc : TypeId × Value → H) :
    ReturnsInTold none {} Ybaf.checked os 3 .any Input.okWide ((OpenSpec.ofChange Rows.lawS5513CWholeSpec).preRow enc Ybaf.prog Ybaf.f3 [] false [])
      (fun F => ((OpenSpec.ofChange Rows.lawS5513CWholeSpec).at F).post enc Ybaf.prog Ybaf.f3 false true false false) (aloneAtReturn Ybaf.prog) nothingAlways := by
  refine returnsInTold_of_row (C := Ybaf.checked) (s := OpenSpec.ofChange Rows.lawS5513CWholeSpec) (by kernel_rfl) Ybaf.own started (by kernel_rfl) Ybaf.func3
    (OpenSpec.witness_stopped (enc := enc) (C := Ybaf.checked) false ⟨#[], #[.slice none 0 0, .slice none 0 0, .slice none 0 0, .bool false], []⟩ 8 (by kernel_rfl) (by kernel_rfl) (by kernel_rfl) (by kernel_rfl)) ?_
  intro F W base args ds gs before _ hF hval0 hW _ _ hsz0 _ _
  have hsz : (DataW.weightsEach Ybaf.prog (Ybaf.f3.params.toList ++ (OpenSpec.ofChange Rows.lawS5513CWholeSpec).bare.plain.varTypes Ybaf.prog) (ds ++ gs)).all (· ≤ reachBytes) = true := hsz0
  clear hsz0
  have hval : ∀ (j : Nat) t v, Ybaf.f3.params[j]? = some t → args[j]? = some v → Value.okWide Ybaf.prog W .any base t v := hval0
  have hW' := hW
  obtain ⟨p, q, hA0, hV, rfl, _, _⟩ := hW
  have hA : DataW.TrodAll enc Ybaf.prog W 0 (fun _ => true) true Ybaf.f3.params.toList args.toList ds p := hA0
  rw [Ybaf.params3] at hA hval hsz
  obtain ⟨v0, v1, v2, v3, d0, d1, d2, d3, p0, p1, p2, p3, rfl, rfl, rfl, h0, h1, h2, h3⟩ := trodAll_four hA
  obtain ⟨rfl, rfl⟩ := trodVars_none hV
  obtain ⟨a0, la, ca, rfl⟩ := okWide_slice Ybaf.underlying22 (hval 0 22 v0 rfl rfl)
  obtain ⟨a1, lb, cb, rfl⟩ := okWide_slice Ybaf.underlying22 (hval 1 22 v1 rfl rfl)
  obtain ⟨a2, lc, cc, rfl⟩ := okWide_slice Ybaf.underlying22 (hval 2 22 v2 rfl rfl)
  obtain ⟨dv, rfl, rfl, rfl⟩ := open_bool Ybaf.underlying4 (hval 3 4 v3 rfl rfl) h3
  have h0k := h0
  have h1k := h1
  have h2k := h2
  obtain ⟨fa, hfa⟩ := h0
  obtain ⟨fb, hfb⟩ := h1
  obtain ⟨fc, hfc⟩ := h2
  clear hA0 hval0
  simp only [List.append_nil] at hW'
  have hlt : ∀ x ∈ p0 ++ p1 ++ p2, x.block < W.heap.size := fun x hx => by simpa using hW'.lt x (by simpa using hx)
  obtain ⟨r0, s0⟩ := view hfa
  obtain ⟨r1, s1⟩ := view hfb
  obtain ⟨r2, s2⟩ := view hfc
  have z0 : la ≤ 140737488351232 := by
    rcases s0 with ⟨_, h⟩ | ⟨es, sp, h, hl⟩
    · omega
    · have := sized_slice hsz (j := 0) (t := 22) (e := 5) rfl (by rw [h]; rfl) Ybaf.underlying22
      rw [Ybaf.bytes5, hl] at this
      simp only [reachBytes] at this
      omega
  have z1 : lb ≤ 140737488351232 := by
    rcases s1 with ⟨_, h⟩ | ⟨es, sp, h, hl⟩
    · omega
    · have := sized_slice hsz (j := 1) (t := 22) (e := 5) rfl (by rw [h]; rfl) Ybaf.underlying22
      rw [Ybaf.bytes5, hl] at this
      simp only [reachBytes] at this
      omega
  have z2 : lc ≤ 140737488351232 := by
    rcases s2 with ⟨_, h⟩ | ⟨es, sp, h, hl⟩
    · omega
    · have := sized_slice hsz (j := 2) (t := 22) (e := 5) rfl (by rw [h]; rfl) Ybaf.underlying22
      rw [Ybaf.bytes5, hl] at this
      simp only [reachBytes] at this
      omega
  have fin : ∀ (e : Ending) (W' : World), (e = .returned (.bool true) ∧ Below W.heap.size W W') →
      ∃ v, e = Ending.returned v ∧ ((OpenSpec.ofChange Rows.lawS5513CWholeSpec).at F.told).post enc Ybaf.checked.prog Ybaf.f3 false true false false W #[.slice a0 la ca, .slice a1 lb cb, .slice a2 lc cc, .bool dv] v W' := by
    rintro e W' ⟨rfl, hnx⟩
    refine ⟨_, rfl, _, _, _, [], p0 ++ (p1 ++ (p2 ++ [])), [], hW', trodAll_mk1 (shut_bool Ybaf.underlying4 _), ?_, rfl, hnx.frame _, fun h => by cases h⟩
    exact trodAll_cons_mk (Below.trod Ybaf.laidOut (by kernel_rfl) (of_decide_eq_true (by kernel_rfl)) h0k hnx (fun x hx => hlt x (by simp [hx])))
      (trodAll_cons_mk (Below.trod Ybaf.laidOut (by kernel_rfl) (of_decide_eq_true (by kernel_rfl)) h1k hnx (fun x hx => hlt x (by simp [hx])))
        (trodAll_cons_mk (Below.trod Ybaf.laidOut (by kernel_rfl) (of_decide_eq_true (by kernel_rfl)) h2k hnx (fun x hx => hlt x (by simp [hx])))
          (trodAll_cons_mk (shut_bool Ybaf.underlying4 _) trodAll_mk0)))
  by_cases hbig : 4096 < la + lb + lc
  · exact (law_big a0 a1 a2 la lb lc ca cb cc dv W z0 z1 z2 hbig).mono fin
  · cases dv
    · exact (law_other _ _ _ la lb lc W r0 r1 r2 (by omega)).mono fin
    · exact (law_derive _ _ _ la lb lc W r0 r1 r2 (by omega)).mono fin

theorem Ybaf.stops : Ybaf.pinned.checked.prog.stops = ["fmt.errorf"] := by kernel_rfl
theorem Ybaf.stopKnobs : Ybaf.pinned.checked.prog.stopKnobs = [] := by kernel_rfl
theorem Ybaf.quiet (os : Os) : Stop.quiet Ybaf.pinned.checked.prog os := by
  intro k hk
  rw [Ybaf.stopKnobs] at hk
  cases hk

/-- THE STATEMENT. -/
theorem lawS5513CWhole_told : Rows.LawS5513CWholeToldSaid :=
  Claim7.holds_of_told_any 3 Ybaf.f3 "fmt.errorf" [] [] _ _ _ (by kernel_rfl) rfl rfl rfl Ybaf.laidOut (by kernel_rfl) rfl ⟨rfl, rfl, rfl, rfl, rfl, rfl, rfl⟩ rfl rfl (by kernel_rfl) (by kernel_rfl) Ybaf.func3 (by kernel_rfl)
    (of_decide_eq_true (by kernel_rfl)) (by unfold Func.isWrapper; first | (rw [if_pos (by decide +kernel)]; kernel_rfl) | (rw [if_neg (by decide +kernel)]; exact ⟨rfl, rfl⟩)) Ybaf.stops.symm rfl Ybaf.stopKnobs.symm (by kernel_rfl)
    (by kernel_rfl) (by kernel_rfl) (by kernel_rfl) (by kernel_rfl) (by kernel_rfl) (by kernel_rfl) (by kernel_rfl) (by kernel_rfl) (by kernel_rfl) rfl (by kernel_rfl) rfl rfl
    rfl rfl
    rfl (by kernel_rfl) (by kernel_rfl) (by kernel_rfl) (by decide) (by kernel_rfl)
    (OpenClaim.moreEntering_of (by kernel_rfl) (by kernel_rfl) (by kernel_rfl) (by kernel_rfl) (by kernel_rfl) (by kernel_rfl) (by kernel_rfl) (by kernel_rfl) (by kernel_rfl) (by kernel_rfl))
    ⟨_, WideRow.started_initial, Ybaf.quiet _⟩
    (fun os started _ H enc _ => law_lifted os started H enc)

end Go.Proofs.YbulkdjdoFmt
