import Derived.Test.YbulkdjfsDoorRows
import Derived.Test.YbulkdjfsDoorIeee
import Derived.WalkKit
import Derived.WalkSpells
import Derived.WalkLawsBesides
import Derived.BigQuiet
import Derived.Deep.RegionHeld3
import Derived.Deep.DeepCutAuto
namespace Go.Proofs.YbulkdjfsDoor
open Go.RowKit

theorem hide {p : Prop} (h : p) : Hid p := h
theorem unhide {p : Prop} (h : Hid p) : p := h

/-- A store of a float (the kit has the like for integers, bools, pointers, slices, strings). -/
theorem run_store_flt (P : Program) (w : World) (a : Addr) (m : Mode) (k : FloatKind) (b : Nat) : (store a (.float k b) m).run P w = stored P w a (.float k b) m := run_store P w a _ m rfl

/-- time.Time{}.Add(n): its three cells. -/
def tmW (n : Int) : Int := n % 1000000000
def tmE (n : Int) : Int := n / 1000000000
def tm (n : Int) : Value := .agg #[.int .u64 (tmW n), .int .i64 (tmE n), .pointer none]

theorem and_mask0 : bits BinOp.and IntKind.u64 0 1073741823 = 0 := by decide
theorem andNot_mask0 : bits BinOp.andNot IntKind.u64 0 1073741823 = 0 := by decide

set_option maxHeartbeats 400000 in
theorem nsec_any (b : Nat) (w : World) (hc : w.cell? ⟨b, 0, none⟩ = some (.int .u64 0)) :
    Calls Ybad.prog 20 #[.pointer (some ⟨b, 0, none⟩)] w fun e w' => e = .returned (.int .i32 0) ∧ w' = w := by
  have h := and_mask0
  go_enter Ybad.func20, Ybad.ntmps20
  go_wp2
  go_ret
  exact ⟨rfl, rfl⟩

theorem and_top (x : Int) (h0 : 0 ≤ x) (h1 : x < 1000000000) : (bits BinOp.and IntKind.u64 x 9223372036854775808 != 0) = false := by
  have e : bits BinOp.and IntKind.u64 x 9223372036854775808 = 0 := by
    show IntKind.u64.wrap ((BitVec.ofInt 64 x &&& BitVec.ofInt 64 9223372036854775808).toNat : Int) = 0
    have : (BitVec.ofInt 64 x &&& BitVec.ofInt 64 9223372036854775808).toNat = 0 := by
      rw [BitVec.toNat_and, show (BitVec.ofInt 64 9223372036854775808).toNat = 2 ^ 63 by decide, BitVec.toNat_ofInt]
      have hx : (x % ((2 ^ 64 : Nat) : Int)).toNat = x.toNat := by
        rw [Int.emod_eq_of_lt h0 (by omega)]
      rw [hx]
      apply Nat.eq_of_testBit_eq
      intro i
      rw [Nat.testBit_and, Nat.testBit_two_pow, Nat.zero_testBit]
      by_cases hi : 63 = i
      · subst hi
        rw [Nat.testBit_lt_two_pow (by omega)]
        rfl
      · simp [hi]
    rw [this]
    decide
  rw [e]
  decide

theorem or_zero (x : Int) (h0 : 0 ≤ x) (h1 : x < 1000000000) : bits BinOp.or IntKind.u64 0 x = x := by
  show IntKind.u64.wrap ((BitVec.ofInt 64 0 ||| BitVec.ofInt 64 x).toNat : Int) = x
  have : (BitVec.ofInt 64 0 ||| BitVec.ofInt 64 x).toNat = x.toNat := by
    rw [BitVec.toNat_or, show (BitVec.ofInt 64 0).toNat = 0 by decide, Nat.zero_or, BitVec.toNat_ofInt, Int.emod_eq_of_lt h0 (by omega)]
  rw [this, Int.toNat_of_nonneg h0]
  simp only [IntKind.wrap, IntKind.bits, IntKind.signed]
  simp
  omega

set_option maxHeartbeats 400000 in
/-- addSec on a time without a monotonic reading whose 'ext' is 0. -/
theorem addSec_any (b : Nat) (x q : Int) (w : World) (h0 : 0 ≤ x) (h1 : x < 1000000000) (hc : w.cell? ⟨b, 0, none⟩ = some (.int .u64 x)) (hc1 : w.cell? ⟨b, 1, none⟩ = some (.int .i64 0)) (hf : w.frozen? ⟨b, 1, none⟩ = false) (hq0 : -9223372037 ≤ q) (hq1 : q ≤ 9223372037) :
    Calls Ybad.prog 21 #[.pointer (some ⟨b, 0, none⟩), .int .i64 q] w fun e w' => e = .returned (.tuple #[]) ∧ w' = w.setCell ⟨b, 1, none⟩ (.int .i64 q) := by
  have h := and_top x h0 h1
  by_cases hp : 0 < q
  · go_enter Ybad.func21, Ybad.ntmps21
    go_wp2
    go_end0
    exact ⟨rfl, rfl⟩
  · go_enter Ybad.func21, Ybad.ntmps21
    go_wp2
    go_end0
    exact ⟨rfl, rfl⟩

set_option maxHeartbeats 400000 in
theorem add_pos (n : Int) (w : World) (h0 : 0 ≤ n) (h1 : n ≤ 9223372036854775807) :
    Calls Ybad.prog 15 #[.agg #[.int .u64 0, .int .i64 0, .pointer none], .int .i64 n] w fun e w' => e = .returned (tm n) ∧ Below w.heap.size w w' := by
  have e1 := andNot_mask0
  have hm0 : 0 ≤ n % 1000000000 := by omega
  have hm1 : n % 1000000000 < 1000000000 := by omega
  have e2 := or_zero _ hm0 hm1
  have e3 := and_top _ hm0 hm1
  go_enter Ybad.func15, Ybad.ntmps15
  go_wp2_with (first | (go_at_call 20; refine (nsec_any _ _ (by simp)).mono ?_; rintro e w' ⟨rfl, rfl⟩) | (go_at_call 21; refine (addSec_any _ (n % 1000000000) (n / 1000000000) _ hm0 hm1 (by simp) (by simp) (by simp) (by omega) (by omega)).mono ?_; rintro e w' ⟨rfl, rfl⟩))
  exact bodyPost_ret (v := tm n) (by simp [results, Ybad.results15, go_sem, tm, tmW, tmE]) rfl ⟨rfl, ((Below.refl _ _).alloc (Nat.le_refl _) _).alloc (by simp) _⟩

set_option maxHeartbeats 400000 in
theorem add_neg (n : Int) (w : World) (h0 : -9223372036854775808 ≤ n) (h1 : n < 0) :
    Calls Ybad.prog 15 #[.agg #[.int .u64 0, .int .i64 0, .pointer none], .int .i64 n] w fun e w' => e = .returned (tm n) ∧ Below w.heap.size w w' := by
  have e1 := andNot_mask0
  have hsum := Int.mul_tdiv_add_tmod n 1000000000
  have hr0 : n.tmod 1000000000 ≤ 0 := by
    have := Int.tmod_nonneg 1000000000 (by omega : 0 ≤ -n)
    rw [Int.neg_tmod] at this
    omega
  have hr1 : -1000000000 < n.tmod 1000000000 := by have := Int.lt_tmod_of_pos n (show (0 : Int) < 1000000000 by omega); omega
  generalize hq : n.tdiv 1000000000 = q at hsum
  generalize hr : n.tmod 1000000000 = r at hsum hr0 hr1
  have HT : Hid (tm n = .agg #[.int .u64 (if r = 0 then 0 else r + 1000000000), .int .i64 (if r = 0 then q else q - 1), .pointer none]) := by
    unfold Hid tm tmW tmE
    have a1 : n % 1000000000 = if r = 0 then 0 else r + 1000000000 := by split <;> omega
    have a2 : n / 1000000000 = if r = 0 then q else q - 1 := by split <;> omega
    rw [a1, a2]
  have hq0 : -9223372036 ≤ q := by omega
  have hq1 : q ≤ 0 := by omega
  have HS : Hid (1000000000 * q + r = n) := hsum
  clear hsum
  by_cases hz : r = 0
  · subst hz
    have e2 := or_zero 0 (by omega) (by omega)
    have e3 := and_top 0 (by omega) (by omega)
    go_enter Ybad.func15, Ybad.ntmps15
    go_wp2_with (first | (go_at_call 20; refine (nsec_any _ _ (by simp)).mono ?_; rintro e w' ⟨rfl, rfl⟩) | (go_at_call 21; refine (addSec_any _ 0 q _ (by omega) (by omega) (by simp) (by simp) (by simp) (by omega) (by omega)).mono ?_; rintro e w' ⟨rfl, rfl⟩))
    refine bodyPost_ret (v := tm n) ?_ rfl ⟨rfl, ((Below.refl _ _).alloc (Nat.le_refl _) _).alloc (by simp) _⟩
    rw [HT.out]
    simp [results, Ybad.results15, go_sem]
  · have hr2 : r < 0 := by omega
    have e2 := or_zero (r + 1000000000) (by omega) (by omega)
    have e3 := and_top (r + 1000000000) (by omega) (by omega)
    go_enter Ybad.func15, Ybad.ntmps15
    go_wp2_with (first | (go_at_call 20; refine (nsec_any _ _ (by simp)).mono ?_; rintro e w' ⟨rfl, rfl⟩) | (go_at_call 21; refine (addSec_any _ (r + 1000000000) (q - 1) _ (by omega) (by omega) (by simp) (by simp) (by simp) (by omega) (by omega)).mono ?_; rintro e w' ⟨rfl, rfl⟩))
    refine bodyPost_ret (v := tm n) ?_ rfl ⟨rfl, ((Below.refl _ _).alloc (Nat.le_refl _) _).alloc (by simp) _⟩
    rw [HT.out, if_neg hz, if_neg hz]
    simp [results, Ybad.results15, go_sem]

theorem add_any (n : Int) (w : World) (h0 : -9223372036854775808 ≤ n) (h1 : n ≤ 9223372036854775807) :
    Calls Ybad.prog 15 #[.agg #[.int .u64 0, .int .i64 0, .pointer none], .int .i64 n] w fun e w' => e = .returned (tm n) ∧ Below w.heap.size w w' := by
  by_cases h : 0 ≤ n
  · exact add_pos n w h h1
  · exact add_neg n w h0 (by omega)

theorem grow_of {w w1 : World} (o : Obj) (h : Below (w.alloc o).heap.size (w.alloc o) w1) : Below w.heap.size w w1 :=
  ((Below.refl _ _).alloc (Nat.le_refl _) o).trans (h.mono (by simp))

set_option maxHeartbeats 400000 in
theorem at_any (n : Int) (w : World) (h0 : -9223372036854775808 ≤ n) (h1 : n ≤ 9223372036854775807) :
    Calls Ybad.prog 6 #[.int .i64 n] w fun e w' => e = .returned (tm n) ∧ Below w.heap.size w w' := by
  go_enter Ybad.func6, Ybad.ntmps6
  go_wp2_with fail
  refine (add_any n _ h0 h1).mono ?_
  rintro e w1 ⟨rfl, hb⟩
  have c0 := hb.cell (p := ⟨w.heap.size, 0, none⟩) (by simp)
  have c1 := hb.cell (p := ⟨w.heap.size, 1, none⟩) (by simp)
  have c2 := hb.cell (p := ⟨w.heap.size, 2, none⟩) (by simp)
  have f0 := hb.frozen (p := ⟨w.heap.size, 0, none⟩) (by simp)
  have f1 := hb.frozen (p := ⟨w.heap.size, 1, none⟩) (by simp)
  have f2 := hb.frozen (p := ⟨w.heap.size, 2, none⟩) (by simp)
  have hb1 := grow_of _ hb
  simp at c0 c1 c2 f0 f1 f2
  unfold tm
  go_wp2_with fail
  refine bodyPost_ret (v := tm n) ?_ rfl ⟨rfl, ((hb1.setCell (by simp) _).setCell (by simp) _).setCell (by simp) _⟩
  simp [results, Ybad.results6, go_sem, tm, c0, c1, c2]

end Go.Proofs.YbulkdjfsDoor
