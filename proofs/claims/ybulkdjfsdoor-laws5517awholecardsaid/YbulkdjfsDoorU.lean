/-
  THE TIED CARD OF 'headroom.LawS5517AWhole'.
-/
import Derived.Test.YbulkdjfsDoorL
import Derived.Test.YbulkdjfsDoorS
namespace Go.Proofs.YbulkdjfsDoor
open Go.ChangeShapes Go.WideShapes Go.ChangeAt Go.RowKit

set_option maxRecDepth 100000 in
theorem whole_lifted (os : Os) (started : os.Started) (H : Type) (enc : TypeId × Value → H) :
    ReturnsInHanded {} Ybad.checked os 3 .any (fun w args => (Rows.lawS5517AWholeSpec.pre enc Ybad.prog Ybad.f3 [] false w args ∧ laidMet Ybad.prog Rows.lawS5517AWholeRow.laid w) ∧ sizedMet enc Ybad.prog Ybad.f3 (OpenSpec.ofChange Rows.lawS5517AWholeSpec) false w args)
      (Rows.lawS5517AWholeSpec.post enc Ybad.prog Ybad.f3 false true false false) := by
  refine returnsInHanded_of_change_and (C := Ybad.checked) (X := fun w _ => laidMet Ybad.prog Rows.lawS5517AWholeRow.laid w) (fun _ _ _ hh h => h.of_heap hh) Ybad.own started (by kernel_rfl) Ybad.func3
    (ChangeSpec.witness_at (enc := enc) (C := Ybad.checked) (os := os) (X := fun w _ => laidMet Ybad.prog Rows.lawS5517AWholeRow.laid w) false
      { World.holding Ybad.prog os ⟨#[], #[], []⟩ with heap := (World.holding Ybad.prog os ⟨#[], #[], []⟩).heap.modify 0 fun
          | .cells _ t frozen => .cells #[.int .i64 640, .float .f64 4607182418800017408] t frozen
          | o => o }
      #[.agg #[.bool false, .int .u64 0, .float .f64 0, .int .i64 0, .bool false, .int .u64 0, .float .f64 0, .int .u64 0, .float .f64 0, .float .f64 0, .int .i64 0, .int .i64 0, .int .i64 0, .int .i64 0, .slice none 0 0, .slice none 0 0], .int .i64 0, .int .i64 0, .int .i64 0]
      8 rfl (by kernel_rfl) (by kernel_rfl) (by kernel_rfl) (by kernel_rfl) (by kernel_rfl) (laidMet_of_run (ps := [.cell 0 0, .cell 0 1]) 8 (by kernel_rfl) (by kernel_rfl) (by kernel_rfl))) ?_
  intro W base args ds gs before hval0 hW _ _ hL _
  have hval : ∀ (j : Nat) t v, Ybad.f3.params[j]? = some t → args[j]? = some v → Value.okWide Ybad.prog W .any base t v := hval0
  have hW' := hW
  obtain ⟨p, q, hA0, hV, rfl, hfz, hnd⟩ := hW
  have hA : DataW.TrodAll enc Ybad.prog W 0 (fun _ => true) true Ybad.f3.params.toList args.toList ds p := hA0
  rw [Ybad.params3] at hA hval
  obtain ⟨v0, v1, v2, v3, d0, d1, d2, d3, p0, p1, p2, p3, rfl, rfl, rfl, h0, h1, h2, h3⟩ := trodAll_four hA
  have hnc := nc_of_laid hL
  obtain ⟨nc, gr, sh, mf, cn, cg, cs, bg, bs, cr, lf, lm, st, lt, a1, a2, l1, l2, c1, c2, rfl, g1, g2, ⟨st0, st1⟩, ⟨lf0, lf1⟩, ⟨lm0, lm1⟩⟩ := open_st (hval 0 26 v0 rfl rfl) h0
  obtain ⟨now, rfl, rfl, rfl, wnow⟩ := open_int Ybad.underlying2 (hval 1 2 v1 rfl rfl) h1
  obtain ⟨old, rfl, rfl, rfl, wold⟩ := open_int Ybad.underlying3 (hval 2 3 v2 rfl rfl) h2
  obtain ⟨lim, rfl, rfl, rfl, wlim⟩ := open_int Ybad.underlying3 (hval 3 3 v3 rfl rfl) h3
  have hlt : ∀ x ∈ p0 ++ q, x.block < W.heap.size := fun x hx => by
    have := hW'.lt x (by simpa using hx)
    simpa using this
  refine (whole_any nc gr sh mf cn cg cs bg bs cr lf lm st lt now old lim a1 a2 l1 l2 c1 c2 W hnc st0 st1 lf0 lf1 lm0 lm1 (wf_i64 wnow).1 (wf_i64 wnow).2 g1 g2).mono ?_
  rintro e W' ⟨rfl, hb⟩
  obtain ⟨g, t, cs', fuel, d, pv, rfl, hv1, hv2, hv3, hv4, rfl⟩ := trodVars_one hV
  refine ⟨_, rfl, _, _, _, [], p0 ++ ([] ++ ([] ++ ([] ++ []))), _, hW', trodAll_mk1 (shut_bool Ybad.underlying4 _), ?_, var_stays (by kernel_rfl) (by kernel_rfl) hV (fun x hx => hlt x (by simp at hx ⊢; exact Or.inr hx)) hb hnc.lt, hb.frame _, fun h => by cases h⟩
  exact trodAll_cons_mk (Below.trod Ybad.laidOut (by kernel_rfl) (of_decide_eq_true (by kernel_rfl)) h0 hb (fun x hx => hlt x (by simp [hx])))
    (trodAll_cons_mk (shut_int Ybad.underlying2 wnow) (trodAll_cons_mk (shut_int Ybad.underlying3 wold) (trodAll_cons_mk (shut_int Ybad.underlying3 wlim) trodAll_mk0)))

theorem whole_holds : Rows.LawS5517AWholeSaid :=
  OpenClaim.holds_of_wide 3 Ybad.f3 rfl rfl rfl rfl rfl rfl rfl ⟨rfl, rfl, rfl, rfl, rfl⟩ rfl rfl rfl rfl rfl (by kernel_rfl) Ybad.func3 (by kernel_rfl)
    (of_decide_eq_true (by kernel_rfl)) (by unfold Func.isWrapper; rw [if_neg (of_decide_eq_false (by kernel_rfl))]; exact ⟨rfl, rfl⟩)
    (fun os started H enc _ => whole_lifted os started H enc)

/-- THE STATEMENT. -/
theorem whole_card : Rows.LawS5517AWholeCardSaid :=
  Claim7.holds_tied_plain_at .later [] [.data] true _ false
    whole_holds (fun _ h => by cases h) (by kernel_rfl) (fun _ h => by cases h) lawS5517AWhole_row_tie rfl ⟨rfl, rfl⟩ (by kernel_rfl) rfl
    (fun f fn hf hfn => by
      obtain rfl : f = 3 := Option.some.inj (hf.symm.trans (by kernel_rfl))
      obtain rfl : fn = Ybad.f3 := (Option.some.inj (Ybad.func3.symm.trans hfn)).symm
      exact ⟨by kernel_rfl, fun j t ht => by
        rw [Ybad.params3] at ht
        have h3 : t = 26 ∨ t = 2 ∨ t = 3 := by
          have hm := List.mem_of_getElem? (by simpa using ht)
          simpa using hm
        rcases h3 with rfl | rfl | rfl
        · exact (show Ybad.prog.wantsStandIn 26 = false by kernel_rfl)
        · exact (show Ybad.prog.wantsStandIn 2 = false by kernel_rfl)
        · exact (show Ybad.prog.wantsStandIn 3 = false by kernel_rfl)⟩)
    (by kernel_rfl)

end Go.Proofs.YbulkdjfsDoor
