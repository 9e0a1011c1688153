import Derived.Test.YbulkdjfsDoorA
namespace Go.Proofs.YbulkdjfsDoor
open Go.RowKit
open Fl (R Out Nan Same)

/-- A demand at offset o of block B: what each group was counted. -/
structure Dem (w : World) (B o : Nat) (cu pr : Nat → Nat) : Prop where
  cur : ∀ g, g ≤ 640 → w.cell? ⟨B, o + 3 + g, none⟩ = some (.int .u32 (cu g))
  prev : ∀ g, g ≤ 640 → w.cell? ⟨B, o + 646 + g, none⟩ = some (.int .u32 (pr g))
  bcur : ∀ g, cu g < 4294967296
  bprev : ∀ g, pr g < 4294967296

theorem Dem.kept {w w' : World} {B o : Nat} {cu pr : Nat → Nat} (h : Dem w B o cu pr) (hc : ∀ q, w'.cell? ⟨B, q, none⟩ = w.cell? ⟨B, q, none⟩) : Dem w' B o cu pr :=
  ⟨fun g hg => by rw [hc]; exact h.cur g hg, fun g hg => by rw [hc]; exact h.prev g hg, h.bcur, h.bprev⟩

theorem Dem.drewN {w : World} {B o : Nat} {cu pr : Nat → Nat} (h : Dem w B o cu pr) (n : Nat) : Dem (w.drewN n) B o cu pr := ⟨h.cur, h.prev, h.bcur, h.bprev⟩

theorem ofInt_R (n : Nat) (h : n < 9007199254740992) : floatOfInt .f64 (n : Int) = R n := by
  have e := Fl.nearest_whole h 0
  rw [Nat.pow_zero, Nat.mul_one] at e
  show Ieee.double.nearest (decide ((n : Int) < 0)) (n : Int).natAbs 0 = R n
  rw [Int.natAbs_natCast, decide_eq_false (by omega)]
  exact e

theorem run_add_R (a b : Nat) (h : a + b < 9007199254740992) (W : World) : (binOp .add 23 (.float .f64 (R a)) (.float .f64 (R b))).run Ybad.prog W = .ok (.float .f64 (R (a + b))) W :=
  run_float_arith W .add 23 .f64 _ _ _ (Fl.add_R h)

set_option maxHeartbeats 400000 in
theorem count_any (B o g : Nat) (cu pr : Nat → Nat) (w : World) (hd : Dem w B o cu pr) (hg : g ≤ 640) :
    Calls Ybad.prog 28 #[.pointer (some ⟨B, o, none⟩), .int .i64 g] w fun e w' => e = .returned (.float .f64 (R (cu g + pr g))) ∧ ∃ n, w' = w.drewN n := by
  have c1 := hd.cur g hg
  have c2 := hd.prev g hg
  have b1 := hd.bcur g
  have b2 := hd.bprev g
  generalize cu g = x at *
  generalize pr g = y at *
  have e1 := ofInt_R x (by omega)
  have e2 := ofInt_R y (by omega)
  have e3 := run_add_R x y (by omega)
  have i0 : (0 : Int) ≤ (g : Int) := by omega
  have i1 : (g : Int) < 641 := by omega
  clear hd
  go_enter Ybad.func28, Ybad.ntmps28
  go_wp2_with fail
  go_quiet (fail)
  go_wp2_with fail
  go_ret
  exact ⟨rfl, _, rfl⟩

/-- What an operation on floats gives in world W (where it is not valid: the NaN that the tape gives there), and how many draws it takes. -/
def fo (op : BinOp) (x y : Nat) (W : World) : Nat :=
  match floatBits op .f64 x y with
  | some r => r
  | none => (Question.nanBits .f64 x y).cut (W.tape W.drawn (.nanBits .f64 x y))
def fd (op : BinOp) (x y : Nat) : Nat := if (floatBits op .f64 x y).isSome then 0 else 1

theorem fo_out (op : BinOp) (x y : Nat) (W : World) : Out (floatBits op .f64 x y) (fo op x y W) := by
  unfold fo Out
  cases floatBits op .f64 x y with
  | some r => exact .inl rfl
  | none => exact .inr ⟨rfl, Fl.nan_drawn _⟩

theorem run_float_op (op : BinOp) (h : op = .add ∨ op = .sub ∨ op = .mul ∨ op = .quo) (x y : Nat) (W : World) :
    (binOp op 23 (.float .f64 x) (.float .f64 y)).run Ybad.prog W = .ok (.float .f64 (fo op x y W)) (W.drewN (fd op x y)) := by
  cases hb : floatBits op .f64 x y with
  | some r =>
    have e1 : fo op x y W = r := by unfold fo; rw [hb]
    have e2 : fd op x y = 0 := by unfold fd; rw [hb]; rfl
    rw [e1, e2]
    exact run_float_arith W op 23 .f64 x y r hb
  | none =>
    have e1 : fo op x y W = (Question.nanBits .f64 x y).cut (W.tape W.drawn (.nanBits .f64 x y)) := by unfold fo; rw [hb]
    have e2 : fd op x y = 1 := by unfold fd; rw [hb]; rfl
    rw [e1, e2]
    unfold floatBits at hb
    rcases h with rfl | rfl | rfl | rfl <;> simp only at hb <;> simp [binOp, Op.floatArith, hb, Question.forced, World.drewN]

/-- The sum of the first g groups' counts. -/
def sumTo (N : Nat → Nat) : Nat → Nat
  | 0 => 0
  | g + 1 => sumTo N g + N (g + 1)

theorem sumTo_le {N : Nat → Nat} {b : Nat} (h : ∀ g, N g ≤ b) : ∀ g, sumTo N g ≤ g * b
  | 0 => by simp [sumTo]
  | g + 1 => by
    have := sumTo_le h g
    have := h (g + 1)
    rw [sumTo, Nat.add_mul]
    omega

theorem Dem.small {w : World} {B o : Nat} {cu pr : Nat → Nat} (h : Dem w B o cu pr) (g : Nat) (hg : g ≤ 640) : sumTo (fun g => cu g + pr g) g < 9007199254740992 := by
  have := sumTo_le (N := fun g => cu g + pr g) (b := 8589934592) (fun g => by have := h.bcur g; have := h.bprev g; simp; omega) g
  omega

/-- What 'admitted' may give: the sum below the group and the share of the group, each operation's outcome. -/
def Adm (N : Nat → Nat) (k s r : Nat) : Prop := ∃ m, Out (floatBits .mul .f64 s (R (N k))) m ∧ Out (floatBits .add .f64 (R (sumTo N (k - 1))) m) r

set_option maxHeartbeats 800000 in
theorem admitted_any (B o k s : Nat) (cu pr : Nat → Nat) (w : World) (hd : Dem w B o cu pr) (hB : B < w.heap.size) (hk : k ≤ 640) :
    Calls Ybad.prog 24 #[.pointer (some ⟨B, o, none⟩), .agg #[.int .i64 k, .float .f64 s]] w fun e w' =>
      ∃ r, e = .returned (.float .f64 r) ∧ Adm (fun g => cu g + pr g) k s r ∧ Below w.heap.size w w' := by
  go_enter Ybad.func24, Ybad.ntmps24
  go_wp2_with fail
  obtain ⟨w0, hw0⟩ : ∃ w0, w0 = w.alloc (.cells #[.int .i64 k, .float .f64 s] 30) := ⟨_, rfl⟩
  have hd0 : Dem w0 B o cu pr := hd.kept (fun q => by rw [hw0]; exact World.cell?_alloc_past _ _ _ hB)
  have hc0 : w0.cell? ⟨w.heap.size, 0, none⟩ = some (.int .i64 k) := by rw [hw0]; simp
  have hc1 : w0.cell? ⟨w.heap.size, 1, none⟩ = some (.float .f64 s) := by rw [hw0]; simp
  have hb0 : Below w.heap.size w w0 := by rw [hw0]; exact (Below.refl _ _).alloc (Nat.le_refl _) _
  rw [← hw0]
  clear hw0
  have HD : Hid (Dem w0 B o cu pr) := hd0
  clear hd hd0
  go_loopw [5, 6] (fun n i wr => ∃ g q : Nat, 1 ≤ g ∧ g ≤ max k 1 ∧ i = .int .i64 g ∧ n = .float .f64 (R (sumTo (fun g => cu g + pr g) (g - 1))) ∧ wr = w0.drewN q) (fun _ i _ => 700 - (intOf i).toNat)
  case atStart => exact ⟨1, 0, by omega, by omega, rfl, rfl, rfl⟩
  case round =>
    obtain ⟨g, q, hg, hgk, rfl, rfl, rfl⟩ := hrel
    by_cases hlt : g < k
    · have hsm := HD.out.small g (by omega)
      have hst : sumTo (fun g => cu g + pr g) g = sumTo (fun g => cu g + pr g) (g - 1) + (cu g + pr g) := by
        obtain ⟨j, rfl⟩ : ∃ j, g = j + 1 := ⟨g - 1, by omega⟩
        rfl
      have ha := run_add_R (sumTo (fun g => cu g + pr g) (g - 1)) (cu g + pr g) (by omega)
      rw [← hst] at ha
      have HST : Hid (sumTo (fun g => cu g + pr g) g = sumTo (fun g => cu g + pr g) (g - 1) + (cu g + pr g)) := hst
      clear hst hsm
      go_wp2_with fail
      refine (count_any B o g cu pr _ (HD.out.drewN _) (by omega)).mono ?_
      rintro e w1 ⟨rfl, q1, rfl⟩
      generalize sumTo (fun g => cu g + pr g) (g - 1) = X at ha ⊢
      generalize hY : cu g + pr g = Y at ha ⊢
      generalize hZ : sumTo (fun g => cu g + pr g) g = Z at ha
      go_wp2_with fail
      go_roundw
      case rel => exact ⟨g + 1, _, by omega, by omega, by go_num, by rw [Nat.add_sub_cancel, hZ], rfl⟩
      case measure => simp [intOf]; omega
    · have hgk2 : sumTo (fun g => cu g + pr g) (g - 1) = sumTo (fun g => cu g + pr g) (k - 1) := by
        by_cases h0 : k = 0
        · subst h0
          have : g = 1 := by omega
          subst this
          rfl
        · have : g = k := by omega
          subst this
          rfl
      have hm := run_float_op .mul (by simp) s (R (cu k + pr k))
      have ha := fun m => run_float_op .add (by simp) (R (sumTo (fun g => cu g + pr g) (k - 1))) m
      have HA : Hid (∀ W W', Adm (fun g => cu g + pr g) k s (fo .add (R (sumTo (fun g => cu g + pr g) (k - 1))) (fo .mul s (R (cu k + pr k)) W) W')) :=
        fun W W' => ⟨_, fo_out _ _ _ W, fo_out _ _ _ W'⟩
      rw [hgk2]
      generalize hX : sumTo (fun g => cu g + pr g) (k - 1) = X at ha HA
      have hk0 : (0 : Int) ≤ (k : Int) := by omega
      go_wp2_with fail
      go_region_with (go_at_call 28; refine (count_any B o k cu pr _ (HD.out.drewN _) (by omega)).mono ?_; rintro e w1 ⟨rfl, q1, rfl⟩)
      all_goals
        go_wp2_with fail
        go_ret
        exact ⟨_, rfl, HA.out _ _, below_drewN hb0 _⟩

end Go.Proofs.YbulkdjfsDoor
