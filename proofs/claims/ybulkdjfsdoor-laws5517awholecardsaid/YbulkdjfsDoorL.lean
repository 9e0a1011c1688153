/-
  THE TIED CARD OF 'headroom.LawS5517ARestore'.
-/
import Derived.Test.YbulkdjfsDoorK
import Derived.Test.YbulkdjfsDoorCards
import Derived.Test.YbulkdjfsDoorTie
import Derived.SevenTiedAt
namespace Go.Proofs.YbulkdjfsDoor
open Go.ChangeShapes Go.WideShapes Go.ChangeAt Go.RowKit

/-- The named variable reads behind the call as it read before. -/
theorem var_stays {H : Type} {enc : TypeId × Value → H} {W W' : World} {n : String} {gs : List (DataW H)} {q : List MemPlace} (hg : Ybad.prog.globalNamed n = some 0) (ht : (Ybad.prog.globals[0]?).map (·.type) = some 30)
    (h : DataW.TrodVars enc Ybad.prog W (fun _ => true) [n] gs q) (hlt : ∀ x ∈ q, x.block < W.heap.size) (hb : Below W.heap.size W W') (hpos : 0 < W.heap.size) :
    DataW.TrodVars enc Ybad.prog W' (fun b => decide (b < W.heap.size)) [n] gs q := by
  obtain ⟨g, t, cs, fuel, d, p, rfl, h1, h2, h3, h4, rfl⟩ := trodVars_one h
  obtain rfl : g = 0 := Option.some.inj (h1.symm.trans hg)
  obtain rfl : t = 30 := Option.some.inj (h2.symm.trans ht)
  obtain ⟨f2, hf2⟩ := Below.trod (v := .agg cs) Ybad.laidOut (by kernel_rfl) (of_decide_eq_true (by kernel_rfl)) ⟨fuel, h4⟩ hb (fun x hx => hlt x (by simp [hx]))
  refine ⟨0, 30, cs, f2, p, [], hg, ht, ?_, hf2, rfl, by simp⟩
  rw [← h3]
  simp only [World.var?, hg, Option.bind_some, hb.block 0 hpos]

set_option maxRecDepth 100000 in
theorem restore_lifted (os : Os) (started : os.Started) (H : Type) (enc : TypeId × Value → H) :
    ReturnsInHanded {} Ybad.checked os 4 .any (fun w args => (Rows.lawS5517ARestoreSpec.pre enc Ybad.prog Ybad.f4 [] false w args ∧ laidMet Ybad.prog Rows.lawS5517ARestoreRow.laid w) ∧ sizedMet enc Ybad.prog Ybad.f4 (OpenSpec.ofChange Rows.lawS5517ARestoreSpec) false w args)
      (Rows.lawS5517ARestoreSpec.post enc Ybad.prog Ybad.f4 false true false false) := by
  refine returnsInHanded_of_change_and (C := Ybad.checked) (X := fun w _ => laidMet Ybad.prog Rows.lawS5517ARestoreRow.laid w) (fun _ _ _ hh h => h.of_heap hh) Ybad.own started (by kernel_rfl) Ybad.func4
    (ChangeSpec.witness_at (enc := enc) (C := Ybad.checked) (os := os) (X := fun w _ => laidMet Ybad.prog Rows.lawS5517ARestoreRow.laid w) false
      { World.holding Ybad.prog os ⟨#[], #[], []⟩ with heap := (World.holding Ybad.prog os ⟨#[], #[], []⟩).heap.modify 0 fun
          | .cells _ t frozen => .cells #[.int .i64 640, .float .f64 4607182418800017408] t frozen
          | o => o }
      #[.agg #[.bool false, .int .u64 0, .float .f64 0, .int .i64 0, .bool false, .int .u64 0, .float .f64 0, .int .u64 0, .float .f64 0, .float .f64 0, .int .i64 0, .int .i64 0, .int .i64 0, .int .i64 0, .slice none 0 0, .slice none 0 0], .int .i64 0, .int .i64 0, .int .i64 0, .int .i64 0]
      8 rfl (by kernel_rfl) (by kernel_rfl) (by kernel_rfl) (by kernel_rfl) (by kernel_rfl) (laidMet_of_run (ps := [.cell 0 0, .cell 0 1]) 8 (by kernel_rfl) (by kernel_rfl) (by kernel_rfl))) ?_
  intro W base args ds gs before hval0 hW _ _ hL _
  have hval : ∀ (j : Nat) t v, Ybad.f4.params[j]? = some t → args[j]? = some v → Value.okWide Ybad.prog W .any base t v := hval0
  have hW' := hW
  obtain ⟨p, q, hA0, hV, rfl, hfz, hnd⟩ := hW
  have hA : DataW.TrodAll enc Ybad.prog W 0 (fun _ => true) true Ybad.f4.params.toList args.toList ds p := hA0
  rw [Ybad.params4] at hA hval
  obtain ⟨v0, vs0, d0, ds0, p0, q0, e0, rfl, rfl, h0, hA1⟩ := trodAll_cons hA
  obtain ⟨v1, v2, v3, v4, d1, d2, d3, d4, p1, p2, p3, p4, e1, rfl, rfl, h1, h2, h3, h4⟩ := trodAll_four (args := vs0.toArray) (by simpa using hA1)
  obtain rfl : args = #[v0, v1, v2, v3, v4] := by cases args; simp_all
  have hnc := nc_of_laid hL
  obtain ⟨nc, gr, sh, mf, cn, cg, cs, bg, bs, cr, lf, lm, st, lt, a1, a2, l1, l2, c1, c2, rfl, g1, g2, ⟨st0, st1⟩, ⟨lf0, lf1⟩, ⟨lm0, lm1⟩⟩ := open_st (hval 0 26 v0 rfl rfl) h0
  obtain ⟨now, rfl, rfl, rfl, wnow⟩ := open_int Ybad.underlying2 (hval 1 2 v1 rfl rfl) h1
  obtain ⟨en, rfl, rfl, rfl, wen⟩ := open_int Ybad.underlying2 (hval 2 2 v2 rfl rfl) h2
  obtain ⟨old, rfl, rfl, rfl, wold⟩ := open_int Ybad.underlying3 (hval 3 3 v3 rfl rfl) h3
  obtain ⟨lim, rfl, rfl, rfl, wlim⟩ := open_int Ybad.underlying3 (hval 4 3 v4 rfl rfl) h4
  have hlt : ∀ x ∈ p0 ++ q, x.block < W.heap.size := fun x hx => by
    have := hW'.lt x (by simpa using hx)
    simpa using this
  refine (restore_any nc gr sh mf cn cg cs bg bs cr lf lm st lt now en old lim a1 a2 l1 l2 c1 c2 W hnc st0 st1 lf0 lf1 lm0 lm1 (wf_i64 wnow).1 (wf_i64 wnow).2 (wf_i64 wen).1 (wf_i64 wen).2 g1 g2).mono ?_
  rintro e W' ⟨rfl, hb⟩
  obtain ⟨g, t, cs', fuel, d, pv, rfl, hv1, hv2, hv3, hv4, rfl⟩ := trodVars_one hV
  refine ⟨_, rfl, _, _, _, [], p0 ++ ([] ++ ([] ++ ([] ++ ([] ++ [])))), _, hW', trodAll_mk1 (shut_bool Ybad.underlying4 _), ?_, var_stays (by kernel_rfl) (by kernel_rfl) hV (fun x hx => hlt x (by simp at hx ⊢; exact Or.inr hx)) hb hnc.lt, hb.frame _, fun h => by cases h⟩
  exact trodAll_cons_mk (Below.trod Ybad.laidOut (by kernel_rfl) (of_decide_eq_true (by kernel_rfl)) h0 hb (fun x hx => hlt x (by simp [hx])))
    (trodAll_cons_mk (shut_int Ybad.underlying2 wnow) (trodAll_cons_mk (shut_int Ybad.underlying2 wen) (trodAll_cons_mk (shut_int Ybad.underlying3 wold) (trodAll_cons_mk (shut_int Ybad.underlying3 wlim) trodAll_mk0))))

theorem restore_holds : Rows.LawS5517ARestoreSaid :=
  OpenClaim.holds_of_wide 4 Ybad.f4 rfl rfl rfl rfl rfl rfl rfl ⟨rfl, rfl, rfl, rfl, rfl⟩ rfl rfl rfl rfl rfl (by kernel_rfl) Ybad.func4 (by kernel_rfl)
    (of_decide_eq_true (by kernel_rfl)) (by unfold Func.isWrapper; rw [if_neg (of_decide_eq_false (by kernel_rfl))]; exact ⟨rfl, rfl⟩)
    (fun os started H enc _ => restore_lifted os started H enc)

/-- THE STATEMENT. -/
theorem restore_card : Rows.LawS5517ARestoreCardSaid :=
  Claim7.holds_tied_plain_at .later [] [.data] true _ false
    restore_holds (fun _ h => by cases h) (by kernel_rfl) (fun _ h => by cases h) lawS5517ARestore_row_tie rfl ⟨rfl, rfl⟩ (by kernel_rfl) rfl
    (fun f fn hf hfn => by
      obtain rfl : f = 4 := Option.some.inj (hf.symm.trans (by kernel_rfl))
      obtain rfl : fn = Ybad.f4 := (Option.some.inj (Ybad.func4.symm.trans hfn)).symm
      exact ⟨by kernel_rfl, fun j t ht => by
        rw [Ybad.params4] at ht
        have h3 : t = 26 ∨ t = 2 ∨ t = 3 := by
          have hm := List.mem_of_getElem? (by simpa using ht)
          simpa using hm
        rcases h3 with rfl | rfl | rfl
        · exact (show Ybad.prog.wantsStandIn 26 = false by kernel_rfl)
        · exact (show Ybad.prog.wantsStandIn 2 = false by kernel_rfl)
        · exact (show Ybad.prog.wantsStandIn 3 = false by kernel_rfl)⟩)
    (by kernel_rfl)

end Go.Proofs.YbulkdjfsDoor
