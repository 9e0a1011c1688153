import Derived.Test.YbulkdjfsDoorB
namespace Go.Proofs.YbulkdjfsDoor
open Go.RowKit
open Fl (R Out Nan Same)

attribute [local go_sem] run_store_flt

/-- (n - R a) / R c -/
def qv (n a c : Nat) : Nat := (floatBits .quo .f64 ((floatBits .sub .f64 n (R a)).getD 0) (R c)).getD 0

/-- The cut that 'cutAt' gives, from group g on. -/
def cutR (N : Nat → Nat) (n : Nat) : Nat → Nat → Nat × Nat
  | 0, _ => (640, 4607182418800017408)
  | f + 1, g =>
    if N g ≠ 0 ∧ Ieee.double.order (R (sumTo N g)) n = some .gt then (g, if sumTo N (g - 1) = 0 then 4607182418800017408 else qv n (sumTo N (g - 1)) (N g))
    else cutR N n f (g + 1)

theorem cutR_le (N : Nat → Nat) (n : Nat) : ∀ f g, g + f ≤ 641 → (cutR N n f g).1 ≤ 640
  | 0, g, _ => by simp [cutR]
  | f + 1, g, h => by
    unfold cutR
    split
    · simp; omega
    · exact cutR_le N n f (g + 1) (by omega)

theorem cutR_same (N : Nat → Nat) {n n' : Nat} (h : Same n n') : ∀ f g, cutR N n f g = cutR N n' f g
  | 0, g => rfl
  | f + 1, g => by
    rcases h with rfl | ⟨h1, h2⟩
    · rfl
    · unfold cutR
      rw [Fl.order_nan (.inr h1), Fl.order_nan (.inr h2)]
      simp only [reduceCtorEq, and_false, if_false]
      exact cutR_same N (.inr ⟨h1, h2⟩) f (g + 1)

/-- Where the cut is taken, both operations are valid. -/
theorem qv_valid {n a b c : Nat} (hb : b < 9007199254740992) (hc : c < 9007199254740992) (hc0 : c ≠ 0) (h : Ieee.double.order (R a) n = some .gt) :
    ∃ q, floatBits .sub .f64 n (R b) = some q ∧ floatBits .quo .f64 q (R c) = some (qv n b c) := by
  obtain ⟨q, r, h1, h2⟩ := Fl.gt_valid hb hc hc0 h
  have h1' : floatBits .sub .f64 n (R b) = some q := h1
  have h2' : floatBits .quo .f64 q (R c) = some r := h2
  refine ⟨q, h1', ?_⟩
  unfold qv
  rw [h1', Option.getD_some, h2']
  rfl

/-- The variable noCut holds what the text lays. -/
structure NC (w : World) : Prop where
  c0 : w.cell? ⟨0, 0, none⟩ = some (.int .i64 640)
  c1 : w.cell? ⟨0, 1, none⟩ = some (.float .f64 4607182418800017408)

theorem NC.lt {w : World} (h : NC w) : 0 < w.heap.size := World.block_lt_of_cell? _ _ h.c0

theorem NC.below {w w' : World} (h : NC w) (hb : Below w.heap.size w w') : NC w' :=
  ⟨by rw [hb.cell (p := ⟨0, 0, none⟩) h.lt]; exact h.c0, by rw [hb.cell (p := ⟨0, 1, none⟩) h.lt]; exact h.c1⟩

theorem zero_R : (0 : Nat) = R 0 := rfl

theorem order_zero {a : Nat} (h : a < 9007199254740992) : (FloatKind.f64.format.order (R a) 0 == some .eq) = decide (a = 0) := by
  have e := Fl.order_R h (show (0 : Nat) < 9007199254740992 by omega)
  have e' : FloatKind.f64.format.order (R a) 0 = some (compare a 0) := e
  rw [e']
  by_cases h0 : a = 0
  · subst h0; rfl
  · have : compare a 0 = .gt := Nat.compare_eq_gt.2 (by omega)
    rw [this]
    simp [h0]

set_option maxHeartbeats 1600000 in
set_option maxRecDepth 100000 in
theorem cutAt_any (B o n : Nat) (cu pr : Nat → Nat) (w : World) (hd : Dem w B o cu pr) (hB : B < w.heap.size) (hnc : NC w) :
    Calls Ybad.prog 23 #[.pointer (some ⟨B, o, none⟩), .float .f64 n] w fun e w' =>
      ∃ g s, e = .returned (.agg #[.int .i64 g, .float .f64 s]) ∧ ((g : Int) : Int) = ((cutR (fun g => cu g + pr g) n 640 1).1 : Nat) ∧ s = (cutR (fun g => cu g + pr g) n 640 1).2 ∧ Below w.heap.size w w' := by
  go_enter Ybad.func23, Ybad.ntmps23
  go_wp2_with fail
  obtain ⟨w0, hw0⟩ : ∃ w0, w0 = w.alloc (.cells #[.int .i64 0, .float .f64 0] 30) := ⟨_, rfl⟩
  have hd0 : Dem w0 B o cu pr := hd.kept (fun q => by rw [hw0]; exact World.cell?_alloc_past _ _ _ hB)
  have hc0 : w0.cell? ⟨w.heap.size, 0, none⟩ = some (.int .i64 0) := by rw [hw0]; simp
  have hc1 : w0.cell? ⟨w.heap.size, 1, none⟩ = some (.float .f64 0) := by rw [hw0]; simp
  have hf0 : w0.frozen? ⟨w.heap.size, 0, none⟩ = false := by rw [hw0]; simp
  have hf1 : w0.frozen? ⟨w.heap.size, 1, none⟩ = false := by rw [hw0]; simp
  have hb0 : Below w.heap.size w w0 := by rw [hw0]; exact (Below.refl _ _).alloc (Nat.le_refl _) _
  have hn0 : NC w0 := hnc.below hb0
  rw [← hw0]
  clear hw0
  have HD : Hid (Dem w0 B o cu pr) := hd0
  have HN : Hid (NC w0) := hn0
  have hsz := hnc.lt
  clear hd hd0 hnc hn0
  generalize hRes : cutR (fun g => cu g + pr g) n 640 1 = res
  have HR : Hid (cutR (fun g => cu g + pr g) n 640 1 = res) := hRes
  clear hRes
  go_loopw [5, 6, 7] (fun bl lw i wr => ∃ g q : Nat, 1 ≤ g ∧ g ≤ 641 ∧ i = .int .i64 g ∧ bl = .float .f64 (R (sumTo (fun g => cu g + pr g) (g - 1))) ∧ lw = .bool (sumTo (fun g => cu g + pr g) (g - 1) == 0) ∧ cutR (fun g => cu g + pr g) n (641 - g) g = res ∧ wr = w0.drewN q) (fun _ _ i _ => 700 - (intOf i).toNat)
  case atStart => exact ⟨1, 0, by omega, by omega, rfl, rfl, rfl, HR.out, rfl⟩
  case round =>
    obtain ⟨g, q, hg, hgk, rfl, rfl, rfl, hres, rfl⟩ := hrel
    have HRes : Hid (cutR (fun g => cu g + pr g) n (641 - g) g = res) := hres
    clear hres
    by_cases hlt : g ≤ 640
    · have hsm := HD.out.small g hlt
      have hsm1 := HD.out.small (g - 1) (by omega)
      have hNb : cu g + pr g < 9007199254740992 := by have := HD.out.bcur g; have := HD.out.bprev g; omega
      have hst : sumTo (fun g => cu g + pr g) g = sumTo (fun g => cu g + pr g) (g - 1) + (cu g + pr g) := by
        obtain ⟨j, rfl⟩ : ∃ j, g = j + 1 := ⟨g - 1, by omega⟩
        rfl
      have hun : res = if cu g + pr g ≠ 0 ∧ Ieee.double.order (R (sumTo (fun g => cu g + pr g) g)) n = some .gt then (g, if sumTo (fun g => cu g + pr g) (g - 1) = 0 then 4607182418800017408 else qv n (sumTo (fun g => cu g + pr g) (g - 1)) (cu g + pr g)) else cutR (fun g => cu g + pr g) n (641 - (g + 1)) (g + 1) := by
        rw [← HRes.out, show 641 - g = (641 - (g + 1)) + 1 by omega]
        rfl
      have ha := run_add_R (sumTo (fun g => cu g + pr g) (g - 1)) (cu g + pr g) (by omega)
      rw [← hst] at ha
      have hnext : sumTo (fun g => cu g + pr g) (g + 1 - 1) = sumTo (fun g => cu g + pr g) g := by rw [Nat.add_sub_cancel]
      have hcnt := count_any B o g cu pr (w0.drewN q) (HD.out.drewN _) hlt
      have hoz := order_zero hNb
      generalize hX : sumTo (fun g => cu g + pr g) (g - 1) = X at *
      generalize hZ : sumTo (fun g => cu g + pr g) g = Z at *
      generalize hY : cu g + pr g = Y at *
      have HC : Hid (Calls Ybad.prog 28 #[.pointer (some ⟨B, o, none⟩), .int .i64 g] (w0.drewN q) fun e w' => e = .returned (.float .f64 (R Y)) ∧ ∃ n, w' = (w0.drewN q).drewN n) := hcnt
      have HU := hide hun
      have HST := hide hst
      have HNX := hide hnext
      clear hcnt hun hst hnext hX hZ hY HRes
      by_cases hY0 : Y = 0
      · subst hY0
        have hZX : Z = X := by have := unhide HST; omega
        subst hZX
        rw [decide_eq_true rfl] at hoz
        go_wp2_with (go_at_call 28; refine HC.out.mono ?_; rintro e w1 ⟨rfl, q1, rfl⟩)
        go_roundw
        case rel =>
          refine ⟨g + 1, _, by omega, by omega, by go_num, by rw [unhide HNX], by rw [unhide HNX], ?_, rfl⟩
          have := unhide HU
          rw [if_neg (by simp)] at this
          exact this.symm
        case measure => simp [intOf]; omega
      · rw [decide_eq_false hY0] at hoz
        by_cases hgt : Ieee.double.order (R Z) n = some .gt
        · have hg1 : (FloatKind.f64.format.order (R Z) n == some .gt) = true := by
            show (Ieee.double.order (R Z) n == some .gt) = true
            rw [hgt]; rfl
          have hU := unhide HU
          rw [if_pos ⟨hY0, hgt⟩] at hU
          by_cases hX0 : X = 0
          · rw [if_pos hX0] at hU
            subst hX0
            subst hU
            have hb3 : ∀ q v v', Below w.heap.size w (((w0.drewN q).setCell ⟨w.heap.size, 0, none⟩ v).setCell ⟨w.heap.size, 1, none⟩ v') := fun q v v' => ((below_drewN hb0 q).setCell (Nat.le_refl _) _).setCell (Nat.le_refl _) _
            have HB3 := hide hb3
            clear hb3
            go_wp2_with (go_at_call 28; refine HC.out.mono ?_; rintro e w1 ⟨rfl, q1, rfl⟩)
            refine bodyPost_ret (v := .agg #[.int .i64 g, .float .f64 4607182418800017408]) ?_ rfl ⟨g, _, rfl, by rw [unhide HR], by rw [unhide HR], ?_⟩
            · simp [results, Ybad.results23, go_sem, hc0, hc1]
            · exact unhide HB3 _ _ _
          · rw [if_neg hX0] at hU
            have hX1 : (X == 0) = false := by simpa using hX0
            obtain ⟨qq, hq1, hq2⟩ := qv_valid (b := X) (c := Y) hsm1 hNb hY0 hgt
            have r1 := fun W => run_float_arith (P := Ybad.prog) W .sub 23 .f64 n (R X) qq hq1
            have r2 := fun W => run_float_arith (P := Ybad.prog) W .quo 23 .f64 qq (R Y) _ hq2
            clear hq1 hq2
            have hb3 : ∀ q v v', Below w.heap.size w (((w0.drewN q).setCell ⟨w.heap.size, 0, none⟩ v).setCell ⟨w.heap.size, 1, none⟩ v') := fun q v v' => ((below_drewN hb0 q).setCell (Nat.le_refl _) _).setCell (Nat.le_refl _) _
            have HB3 := hide hb3
            clear hb3
            generalize qv n X Y = rv at *
            subst hU
            go_wp2_with (go_at_call 28; refine HC.out.mono ?_; rintro e w1 ⟨rfl, q1, rfl⟩)
            refine bodyPost_ret (v := .agg #[.int .i64 g, .float .f64 rv]) ?_ rfl ⟨g, _, rfl, by rw [unhide HR], by rw [unhide HR], ?_⟩
            · simp [results, Ybad.results23, go_sem, hc0, hc1]
            · exact unhide HB3 _ _ _
        · have hg1 : (FloatKind.f64.format.order (R Z) n == some .gt) = false := by
            show (Ieee.double.order (R Z) n == some .gt) = false
            rw [beq_eq_false_iff_ne]; exact hgt
          have hZ0 : (Z == 0) = false := by have := unhide HST; simp; omega
          go_wp2_with (go_at_call 28; refine HC.out.mono ?_; rintro e w1 ⟨rfl, q1, rfl⟩)
          go_roundw
          case rel =>
            refine ⟨g + 1, _, by omega, by omega, by go_num, by rw [unhide HNX], by rw [unhide HNX, hZ0], ?_, rfl⟩
            have := unhide HU
            rw [if_neg (fun h => hgt h.2)] at this
            exact this.symm
          case measure => simp [intOf]; omega
    · have hge : g = 641 := by omega
      subst hge
      have k0 := HN.out.c0
      have k1 := HN.out.c1
      have hb3 : ∀ q v v', Below w.heap.size w (((w0.drewN q).setCell ⟨w.heap.size, 0, none⟩ v).setCell ⟨w.heap.size, 1, none⟩ v') := fun q v v' => ((below_drewN hb0 q).setCell (Nat.le_refl _) _).setCell (Nat.le_refl _) _
      have HB3 := hide hb3
      clear hb3
      have hrr := HRes.out
      clear HRes
      subst hrr
      go_wp2_with fail
      refine bodyPost_ret (v := .agg #[.int .i64 640, .float .f64 4607182418800017408]) ?_ rfl ⟨640, _, rfl, by rw [unhide HR]; rfl, by rw [unhide HR]; rfl, ?_⟩
      · simp [results, Ybad.results23, go_sem, hc0, hc1]
      · exact unhide HB3 _ _ _

theorem field0 (g : Int) (s : Nat) (w : World) : (Instr.field 30 (.agg #[.int .i64 g, .float .f64 s]) 0).run Ybad.prog w = .ok (.int .i64 g) w := by kernel_rfl

theorem ret_int {k : IntKind} {a b : Int} (h : a = b) : Ending.returned (.int k a) = .returned (.int k b) := by rw [h]

/-- The cut, as a value. -/
def cutV (N : Nat → Nat) (n : Nat) : Value := .agg #[.int .i64 ((cutR N n 640 1).1 : Nat), .float .f64 (cutR N n 640 1).2]

theorem cutAt_val (B o n : Nat) (cu pr : Nat → Nat) (w : World) (hd : Dem w B o cu pr) (hB : B < w.heap.size) (hnc : NC w) :
    Calls Ybad.prog 23 #[.pointer (some ⟨B, o, none⟩), .float .f64 n] w fun e w' => e = .returned (cutV (fun g => cu g + pr g) n) ∧ Below w.heap.size w w' := by
  refine (cutAt_any B o n cu pr w hd hB hnc).mono ?_
  rintro e w' ⟨g, s, rfl, h1, rfl, hb⟩
  refine ⟨?_, hb⟩
  unfold cutV
  rw [h1]

/-- What 'marginFrom' may give. -/
def Mrg (N : Nat → Nat) (k s v : Nat) : Prop :=
  ∃ r m, Adm N k s r ∧ Out (floatBits .mul .f64 4606281698874543309 r) m ∧ v = max (cutR N m 640 1).1 ((cutR N 0 640 1).1 + 1)

theorem Adm.same {N : Nat → Nat} {k s r r' : Nat} (h : Adm N k s r) (h' : Adm N k s r') : Same r r' := by
  obtain ⟨m, h1, h2⟩ := h
  obtain ⟨m', h1', h2'⟩ := h'
  exact Fl.out_add (.inl rfl) (Fl.out_mul (.inl rfl) (.inl rfl) h1 h1') h2 h2'

theorem Mrg.same {N : Nat → Nat} {k s v v' : Nat} (h : Mrg N k s v) (h' : Mrg N k s v') : v = v' := by
  obtain ⟨r, m, h1, h2, rfl⟩ := h
  obtain ⟨r', m', h1', h2', rfl⟩ := h'
  rw [cutR_same N (Fl.out_mul (.inl rfl) (h1.same h1') h2 h2')]

theorem Dem.below {w w' : World} {B o : Nat} {cu pr : Nat → Nat} (h : Dem w B o cu pr) (hB : B < w.heap.size) (hb : Below w.heap.size w w') : Dem w' B o cu pr :=
  h.kept (fun q => hb.cell (p := ⟨B, q, none⟩) hB)

set_option maxHeartbeats 800000 in
set_option maxRecDepth 100000 in
theorem margin_any (B o k s : Nat) (cu pr : Nat → Nat) (w : World) (hd : Dem w B o cu pr) (hB : B < w.heap.size) (hnc : NC w) (hk : k ≤ 640) :
    Calls Ybad.prog 26 #[.pointer (some ⟨B, o, none⟩), .agg #[.int .i64 k, .float .f64 s]] w fun e w' =>
      ∃ v : Nat, e = .returned (.int .i64 v) ∧ Mrg (fun g => cu g + pr g) k s v ∧ Below w.heap.size w w' := by
  have hfd := field0
  go_enter Ybad.func26, Ybad.ntmps26
  go_wp2_with fail
  obtain ⟨w0, hw0⟩ : ∃ w0, w0 = w.alloc (.cells #[.int .i64 k, .float .f64 s] 30) := ⟨_, rfl⟩
  have hb0 : Below w.heap.size w w0 := by rw [hw0]; exact (Below.refl _ _).alloc (Nat.le_refl _) _
  have hc0 : w0.cell? ⟨w.heap.size, 0, none⟩ = some (.int .i64 k) := by rw [hw0]; simp
  have hc1 : w0.cell? ⟨w.heap.size, 1, none⟩ = some (.float .f64 s) := by rw [hw0]; simp
  have hs0 : w.heap.size < w0.heap.size := by rw [hw0]; simp
  rw [← hw0]
  clear hw0
  have hd0 := hd.below hB hb0
  have hn0 := hnc.below hb0
  refine (cutAt_val B o 0 cu pr w0 hd0 (by omega) hn0).mono ?_
  rintro e w1 ⟨rfl, hb1⟩
  have hd1 := hd0.below (by omega) hb1
  have hn1 := hn0.below hb1
  have hs1 := hb1.size
  have k0 : w1.cell? ⟨w.heap.size, 0, none⟩ = some (.int .i64 k) := by rw [hb1.cell (p := ⟨w.heap.size, 0, none⟩) hs0]; exact hc0
  have k1 : w1.cell? ⟨w.heap.size, 1, none⟩ = some (.float .f64 s) := by rw [hb1.cell (p := ⟨w.heap.size, 1, none⟩) hs0]; exact hc1
  have HB1 : Hid (Below w.heap.size w w1) := hb0.trans (hb1.mono hb0.size)
  have HD1 := hide hd1
  have HN1 := hide hn1
  have hlow := cutR_le (fun g => cu g + pr g) 0 640 1 (by omega)
  have HG : Hid (∀ r m v, Adm (fun g => cu g + pr g) k s r → Out (floatBits .mul .f64 4606281698874543309 r) m → v = max (cutR (fun g => cu g + pr g) m 640 1).1 ((cutR (fun g => cu g + pr g) 0 640 1).1 + 1) → Mrg (fun g => cu g + pr g) k s v) := fun r m v h1 h2 h3 => ⟨r, m, h1, h2, h3⟩
  unfold cutV
  generalize cutR (fun g => cu g + pr g) 0 640 1 = low at *
  clear hd hnc hd0 hn0 hb0 hb1 hd1 hn1 hc0 hc1
  go_wp2_with fail
  refine (admitted_any B o k s cu pr w1 HD1.out (by omega) hk).mono ?_
  rintro e w2 ⟨r, rfl, hadm, hb2⟩
  have HD2 : Hid (Dem w2 B o cu pr) := HD1.out.below (by omega) hb2
  have HN2 : Hid (NC w2) := HN1.out.below hb2
  have HB2 : Hid (Below w.heap.size w w2) := HB1.out.trans (hb2.mono HB1.out.size)
  have hs2 := hb2.size
  have HA := hide hadm
  clear hb2 hadm HD1 HN1 HB1 k0 k1
  have hmul := run_float_op .mul (by simp) 4606281698874543309 r
  go_wp2_with fail
  refine (cutAt_val B o _ cu pr _ (HD2.out.drewN _) (by simp; omega) ⟨HN2.out.c0, HN2.out.c1⟩).mono ?_
  rintro e w3 ⟨rfl, hb3⟩
  have hm2 := cutR_le (fun g => cu g + pr g) (fo .mul 4606281698874543309 r w2) 640 1 (by omega)
  have HG2 := unhide HG r (fo .mul 4606281698874543309 r w2) _ HA.out (fo_out _ _ _ _) rfl
  unfold cutV
  generalize cutR (fun g => cu g + pr g) (fo .mul 4606281698874543309 r w2) 640 1 = hi at *
  have HG3 := hide HG2
  clear HG2 HG
  have hb4 : Below w.heap.size w w3 := (below_drewN HB2.out _).trans (hb3.mono (by have := HB2.out.size; simpa using this))
  clear hb3
  go_wp2_with fail
  all_goals
    go_ret
    exact ⟨max hi.1 (low.1 + 1), ret_int (by omega), HG3.out, hb4⟩

end Go.Proofs.YbulkdjfsDoor
