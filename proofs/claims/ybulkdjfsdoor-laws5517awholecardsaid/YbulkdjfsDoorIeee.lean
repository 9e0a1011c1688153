/-
  Plain facts on doubles: whole numbers below 2^53 are written, read, added and compared exactly. No Go in sight.
-/
import Ieee.Arith
namespace Go.Proofs.YbulkdjfsDoor.Fl
open Ieee

/-- The word of a whole number. -/
def R (a : Nat) : Nat := if a = 0 then 0 else (a.log2 + 1022) * 4503599627370496 + a * 2 ^ (52 - a.log2)

theorem log2_lt {a : Nat} (h0 : a ≠ 0) (h : a < 9007199254740992) : a.log2 ≤ 52 := by
  have : a.log2 < 53 := (Nat.log2_lt h0).2 (by simpa using h)
  omega

theorem pow_split (L : Nat) (h : L ≤ 52) : 2 ^ L * 2 ^ (52 - L) = 4503599627370496 := by
  rw [← Nat.pow_add, show L + (52 - L) = 52 by omega]

/-- 2^52 ≤ a * 2^(52 - log2 a) < 2^53 -/
theorem scaled {a : Nat} (h0 : a ≠ 0) (h : a < 9007199254740992) : 4503599627370496 ≤ a * 2 ^ (52 - a.log2) ∧ a * 2 ^ (52 - a.log2) < 9007199254740992 := by
  have hL := log2_lt h0 h
  have h1 : 2 ^ a.log2 ≤ a := Nat.log2_self_le h0
  have h2 : a < 2 ^ (a.log2 + 1) := Nat.lt_log2_self
  have hp := pow_split a.log2 hL
  have hpos : 0 < 2 ^ (52 - a.log2) := Nat.pow_pos (by omega)
  constructor
  · have := Nat.mul_le_mul_right (2 ^ (52 - a.log2)) h1
    omega
  · have := (Nat.mul_lt_mul_right hpos).2 h2
    rw [Nat.pow_succ, Nat.mul_assoc, Nat.mul_comm 2, ← Nat.mul_assoc, hp] at this
    omega

theorem read_R0 : double.read (R 0) = .number false 0 (-1074) := by decide

theorem read_R {a : Nat} (h0 : a ≠ 0) (h : a < 9007199254740992) : double.read (R a) = .number false (a * 2 ^ (52 - a.log2)) ((a.log2 : Int) - 52) := by
  have hL := log2_lt h0 h
  obtain ⟨s1, s2⟩ := scaled h0 h
  unfold R
  rw [if_neg h0]
  generalize hm : a * 2 ^ (52 - a.log2) = m at *
  generalize a.log2 = L at *
  have e1 : double.signWeight = 9223372036854775808 := by decide
  have e2 : double.binade = 4503599627370496 := by decide
  have e3 : double.infRung = 9218868437227405312 := by decide
  have e4 : double.leastPlace = -1074 := by decide
  unfold Format.read
  rw [e1, e2, e3, e4]
  have hr : ((L + 1022) * 4503599627370496 + m) % 9223372036854775808 = (L + 1022) * 4503599627370496 + m := Nat.mod_eq_of_lt (by omega)
  have hd : ((L + 1022) * 4503599627370496 + m) / 9223372036854775808 = 0 := Nat.div_eq_of_lt (by omega)
  simp only [hr, hd]
  rw [if_neg (by omega), if_pos (by omega)]
  have hq : ((L + 1022) * 4503599627370496 + m) / 4503599627370496 = L + 1023 := by omega
  have hmo : ((L + 1022) * 4503599627370496 + m) % 4503599627370496 = m - 4503599627370496 := by omega
  rw [hq, hmo]
  simp
  omega

/-- Such a word stands for the whole number a. -/
def Stands (d : Datum) (a : Nat) : Prop := ∃ k : Nat, d = .number false (a * 2 ^ k) (-(k : Int))

theorem stands_zero (k : Nat) : Stands (.number false 0 (-(k : Int))) 0 := ⟨k, by rw [Nat.zero_mul]⟩

theorem stands_R {a : Nat} (h : a < 9007199254740992) : Stands (double.read (R a)) a := by
  by_cases h0 : a = 0
  · subst h0
    rw [read_R0]
    exact stands_zero 1074
  · refine ⟨52 - a.log2, ?_⟩
    rw [read_R h0 h]
    have := log2_lt h0 h
    congr 1
    omega

/-- Writing a whole number, at whatever place. -/
theorem nearest_whole {a : Nat} (h : a < 9007199254740992) (k : Nat) : double.nearest false (a * 2 ^ k) (-(k : Int)) = R a := by
  by_cases h0 : a = 0
  · subst h0; simp [Format.nearest, R, Format.word]
  · have hL := log2_lt h0 h
    obtain ⟨s1, s2⟩ := scaled h0 h
    have hpos : 0 < 2 ^ k := Nat.pow_pos (by omega)
    have hne : a * 2 ^ k ≠ 0 := Nat.mul_ne_zero h0 (by omega)
    have e2 : double.binade = 4503599627370496 := by decide
    have e3 : double.infRung = 9218868437227405312 := by decide
    have e4 : double.leastPlace = -1074 := by decide
    have e5 : double.fractionBits = 52 := rfl
    have hlog : (a * 2 ^ k).log2 = a.log2 + k := by
      have hb1 : 2 ^ (a.log2 + k) ≤ a * 2 ^ k := by
        rw [Nat.pow_add]; exact Nat.mul_le_mul_right _ (Nat.log2_self_le h0)
      have hb2 : a * 2 ^ k < 2 ^ (a.log2 + k + 1) := by
        rw [show a.log2 + k + 1 = a.log2 + 1 + k by omega, Nat.pow_add]
        exact (Nat.mul_lt_mul_right hpos).2 Nat.lt_log2_self
      have c1 : a.log2 + k ≤ (a * 2 ^ k).log2 := (Nat.le_log2 hne).2 hb1
      have c2 : (a * 2 ^ k).log2 < a.log2 + k + 1 := (Nat.log2_lt hne).2 hb2
      omega
    unfold Format.nearest R
    rw [if_neg hne, if_neg h0, e2, e3, e4, e5, hlog]
    have hlast : max (-(k : Int) + ((a.log2 + k : Nat) : Int) - ((52 : Nat) : Int)) (-1074) = (a.log2 : Int) - 52 := by omega
    simp only [hlast]
    have hcut : Toward.even.cut false ((a * 2 ^ k) <<< (-(k : Int) - ((a.log2 : Int) - 52)).toNat) ((a.log2 : Int) - 52 - -(k : Int)).toNat = a * 2 ^ (52 - a.log2) := by
      by_cases hk : k + a.log2 ≤ 52
      · have d0 : ((a.log2 : Int) - 52 - -(k : Int)).toNat = 0 := by omega
        have d1 : (-(k : Int) - ((a.log2 : Int) - 52)).toNat = 52 - a.log2 - k := by omega
        rw [d0, d1, Nat.shiftLeft_eq, Nat.mul_assoc, ← Nat.pow_add, show k + (52 - a.log2 - k) = 52 - a.log2 by omega]
        generalize a * 2 ^ (52 - a.log2) = m
        unfold Toward.cut
        simp only [Nat.zero_min, Nat.shiftLeft_zero, Nat.div_one, Nat.mod_one, Nat.mul_zero]
        rfl
      · have d0 : ((a.log2 : Int) - 52 - -(k : Int)).toNat = k - (52 - a.log2) := by omega
        have d1 : (-(k : Int) - ((a.log2 : Int) - 52)).toNat = 0 := by omega
        rw [d0, d1, Nat.shiftLeft_zero]
        unfold Toward.cut
        rw [hlog, show min (k - (52 - a.log2)) (a.log2 + k + 2) = k - (52 - a.log2) by omega, Nat.shiftLeft_eq, Nat.one_mul]
        have hpp : 0 < 2 ^ (k - (52 - a.log2)) := Nat.pow_pos (by omega)
        have hsp : a * 2 ^ k = a * 2 ^ (52 - a.log2) * 2 ^ (k - (52 - a.log2)) := by
          rw [Nat.mul_assoc, ← Nat.pow_add, show 52 - a.log2 + (k - (52 - a.log2)) = k by omega]
        rw [hsp]
        simp only [Nat.mul_div_cancel _ hpp, Nat.mul_mod_left]
        generalize 2 ^ (k - (52 - a.log2)) = g at hpp ⊢
        have n1 : ¬ g < 2 * 0 := by omega
        have n2 : (g == 2 * 0) = false := by simp; omega
        simp only [n1, n2, decide_false, Bool.false_and, Bool.or_self, Bool.toNat_false, Nat.add_zero]
    rw [hcut]
    have hti : ((a.log2 : Int) - 52 - -1074).toNat = a.log2 + 1022 := by omega
    rw [hti]
    unfold Format.word
    generalize a * 2 ^ (52 - a.log2) = m at s1 s2 ⊢
    generalize a.log2 = L at hL ⊢
    rw [Nat.min_eq_left (by omega)]
    rfl

theorem write_stands {d : Datum} {a : Nat} (h : Stands d a) (ha : a < 9007199254740992) : double.write d = R a := by
  obtain ⟨k, rfl⟩ := h
  exact nearest_whole ha k

theorem signed_shift (a k K : Nat) (h : k ≤ K) : signed false (a * 2 ^ k) (K - k) = ((a * 2 ^ K : Nat) : Int) := by
  unfold signed
  simp only [Bool.false_eq_true, if_false, Nat.shiftLeft_eq]
  rw [Nat.mul_assoc, ← Nat.pow_add, show k + (K - k) = K by omega]

theorem sum_stands {d e : Datum} {a b : Nat} (hd : Stands d a) (he : Stands e b) : ∃ s, d.sum e = some s ∧ Stands s (a + b) := by
  obtain ⟨k, rfl⟩ := hd
  obtain ⟨l, rfl⟩ := he
  refine ⟨_, rfl, ?_⟩
  refine ⟨max k l, ?_⟩
  have hb : min (-(k : Int)) (-(l : Int)) = -((max k l : Nat) : Int) := by omega
  rw [hb]
  have t1 : (-(k : Int) - -((max k l : Nat) : Int)).toNat = max k l - k := by omega
  have t2 : (-(l : Int) - -((max k l : Nat) : Int)).toNat = max k l - l := by omega
  rw [t1, t2, signed_shift a k _ (by omega), signed_shift b l _ (by omega)]
  have hs : ((a * 2 ^ max k l : Nat) : Int) + ((b * 2 ^ max k l : Nat) : Int) = (((a + b) * 2 ^ max k l : Nat) : Int) := by
    rw [Nat.add_mul]; omega
  rw [hs, Int.natAbs_natCast]
  congr 1
  split
  · rfl
  · generalize (a + b) * 2 ^ max k l = t
    have : ¬ ((t : Nat) : Int) < 0 := by omega
    simp only [this, decide_false]

/-- Whole numbers are added exactly. -/
theorem add_R {a b : Nat} (h : a + b < 9007199254740992) : double.add (R a) (R b) = some (R (a + b)) := by
  obtain ⟨s, hs, hst⟩ := sum_stands (stands_R (a := a) (by omega)) (stands_R (a := b) (by omega))
  unfold Format.add
  rw [hs, Option.map_some, write_stands hst h]

theorem icmp_lt {x y : Int} (h : x < y) : compare x y = .lt := by
  show compareOfLessAndEq x y = _
  unfold compareOfLessAndEq
  rw [if_pos h]
theorem icmp_gt {x y : Int} (h : y < x) : compare x y = .gt := by
  show compareOfLessAndEq x y = _
  unfold compareOfLessAndEq
  rw [if_neg (by omega), if_neg (by omega)]

/-- Whole numbers are compared exactly. -/
theorem order_R {a b : Nat} (ha : a < 9007199254740992) (hb : b < 9007199254740992) : double.order (R a) (R b) = some (compare a b) := by
  obtain ⟨k, hd⟩ := stands_R ha
  obtain ⟨l, he⟩ := stands_R hb
  unfold Format.order
  rw [hd, he]
  show some (compare _ _) = _
  have hbm : min (-(k : Int)) (-(l : Int)) = -((max k l : Nat) : Int) := by omega
  rw [hbm]
  have t1 : (-(k : Int) - -((max k l : Nat) : Int)).toNat = max k l - k := by omega
  have t2 : (-(l : Int) - -((max k l : Nat) : Int)).toNat = max k l - l := by omega
  rw [t1, t2, signed_shift a k _ (by omega), signed_shift b l _ (by omega)]
  have hpos : 0 < 2 ^ max k l := Nat.pow_pos (by omega)
  congr 1
  rcases Nat.lt_trichotomy a b with h | h | h
  · have : a * 2 ^ max k l < b * 2 ^ max k l := (Nat.mul_lt_mul_right hpos).2 h
    rw [Nat.compare_eq_lt.2 h]; exact icmp_lt (by omega)
  · subst h; simp
  · have : b * 2 ^ max k l < a * 2 ^ max k l := (Nat.mul_lt_mul_right hpos).2 h
    rw [Nat.compare_eq_gt.2 h]; exact icmp_gt (by omega)

/-- A word that stands for no number. -/
def Nan (r : Nat) : Prop := ∃ s f, double.read r = .nan s f

/-- What the model draws for a NaN is one. -/
theorem nan_drawn (t : Nat) : Nan ((t % 2) * 2 ^ 63 + 0x7ff0000000000000 + 1 + (t / 2) % (2 ^ 52 - 1)) := by
  have h1 : t % 2 < 2 := Nat.mod_lt _ (by omega)
  have h2 : (t / 2) % (2 ^ 52 - 1) < 2 ^ 52 - 1 := Nat.mod_lt _ (by omega)
  generalize t % 2 = x at h1
  generalize (t / 2) % (2 ^ 52 - 1) = y at h2
  have e1 : double.signWeight = 9223372036854775808 := by decide
  have e2 : double.binade = 4503599627370496 := by decide
  have e3 : double.infRung = 9218868437227405312 := by decide
  unfold Nan Format.read
  rw [e1, e2, e3]
  have hr : (x * 2 ^ 63 + 0x7ff0000000000000 + 1 + y) % 9223372036854775808 = 9218868437227405313 + y := by omega
  simp only [hr]
  rw [if_neg (by omega), if_neg (by omega), if_neg (by omega)]
  exact ⟨_, _, rfl⟩

/-- Two words that no comparison tells apart: one word, or two NaNs. -/
def Same (a b : Nat) : Prop := a = b ∨ (Nan a ∧ Nan b)

theorem Same.refl (a : Nat) : Same a a := .inl rfl

theorem sum_nan_left {s : Bool} {f : Nat} (e : Datum) : (Datum.nan s f).sum e = none := by cases e <;> rfl
theorem sum_nan_right {s : Bool} {f : Nat} (d : Datum) : d.sum (.nan s f) = none := by cases d <;> rfl
theorem product_nan_left {s : Bool} {f : Nat} (e : Datum) : (Datum.nan s f).product e = none := by cases e <;> rfl
theorem product_nan_right {s : Bool} {f : Nat} (d : Datum) : d.product (.nan s f) = none := by cases d <;> rfl
theorem order_nan_left {s : Bool} {f : Nat} (e : Datum) : (Datum.nan s f).order e = none := by cases e <;> rfl
theorem order_nan_right {s : Bool} {f : Nat} (d : Datum) : d.order (.nan s f) = none := by cases d <;> rfl

theorem add_nan {a b : Nat} (h : Nan a ∨ Nan b) : double.add a b = none := by
  unfold Format.add
  rcases h with ⟨s, f, h⟩ | ⟨s, f, h⟩ <;> rw [h]
  · rw [sum_nan_left]; rfl
  · rw [sum_nan_right]; rfl
theorem mul_nan {a b : Nat} (h : Nan a ∨ Nan b) : double.mul a b = none := by
  unfold Format.mul
  rcases h with ⟨s, f, h⟩ | ⟨s, f, h⟩ <;> rw [h]
  · rw [product_nan_left]; rfl
  · rw [product_nan_right]; rfl
theorem order_nan {a b : Nat} (h : Nan a ∨ Nan b) : double.order a b = none := by
  unfold Format.order
  rcases h with ⟨s, f, h⟩ | ⟨s, f, h⟩ <;> rw [h]
  · rw [order_nan_left]
  · rw [order_nan_right]

/-- The outcome r of an operation whose valid result is o: that, or some NaN. -/
def Out (o : Option Nat) (r : Nat) : Prop := o = some r ∨ (o = none ∧ Nan r)

theorem out_add {a a' b b' r r' : Nat} (ha : Same a a') (hb : Same b b') (h : Out (double.add a b) r) (h' : Out (double.add a' b') r') : Same r r' := by
  rcases ha with rfl | ⟨n1, n2⟩
  · rcases hb with rfl | ⟨n1, n2⟩
    · rcases h with h | ⟨h, hn⟩ <;> rcases h' with h' | ⟨h', hn'⟩
      · rw [h] at h'; exact .inl (Option.some.inj h')
      · rw [h] at h'; cases h'
      · rw [h] at h'; cases h'
      · exact .inr ⟨hn, hn'⟩
    · rw [add_nan (.inr n1)] at h
      rw [add_nan (.inr n2)] at h'
      rcases h with h | ⟨_, hn⟩ <;> rcases h' with h' | ⟨_, hn'⟩
      · cases h
      · cases h
      · cases h'
      · exact .inr ⟨hn, hn'⟩
  · rw [add_nan (.inl n1)] at h
    rw [add_nan (.inl n2)] at h'
    rcases h with h | ⟨_, hn⟩ <;> rcases h' with h' | ⟨_, hn'⟩
    · cases h
    · cases h
    · cases h'
    · exact .inr ⟨hn, hn'⟩

theorem out_mul {a a' b b' r r' : Nat} (ha : Same a a') (hb : Same b b') (h : Out (double.mul a b) r) (h' : Out (double.mul a' b') r') : Same r r' := by
  rcases ha with rfl | ⟨n1, n2⟩
  · rcases hb with rfl | ⟨n1, n2⟩
    · rcases h with h | ⟨h, hn⟩ <;> rcases h' with h' | ⟨h', hn'⟩
      · rw [h] at h'; exact .inl (Option.some.inj h')
      · rw [h] at h'; cases h'
      · rw [h] at h'; cases h'
      · exact .inr ⟨hn, hn'⟩
    · rw [mul_nan (.inr n1)] at h
      rw [mul_nan (.inr n2)] at h'
      rcases h with h | ⟨_, hn⟩ <;> rcases h' with h' | ⟨_, hn'⟩
      · cases h
      · cases h
      · cases h'
      · exact .inr ⟨hn, hn'⟩
  · rw [mul_nan (.inl n1)] at h
    rw [mul_nan (.inl n2)] at h'
    rcases h with h | ⟨_, hn⟩ <;> rcases h' with h' | ⟨_, hn'⟩
    · cases h
    · cases h
    · cases h'
    · exact .inr ⟨hn, hn'⟩

theorem out_div {a b r r' : Nat} (h : Out (double.div a b) r) (h' : Out (double.div a b) r') : Same r r' := by
  rcases h with h | ⟨h, hn⟩ <;> rcases h' with h' | ⟨h', hn'⟩
  · rw [h] at h'; exact .inl (Option.some.inj h')
  · rw [h] at h'; cases h'
  · rw [h] at h'; cases h'
  · exact .inr ⟨hn, hn'⟩

/-- What is written of a number or an infinity is no NaN. -/
theorem read_write {d : Datum} (h : ∀ s f, d ≠ .nan s f) : ¬ Nan (double.write d) := by
  have e1 : double.signWeight = 9223372036854775808 := by decide
  have e2 : double.binade = 4503599627370496 := by decide
  have e3 : double.infRung = 9218868437227405312 := by decide
  have key : ∀ neg r, r ≤ double.infRung → ¬ Nan (double.word neg r) := by
    intro neg r hr ⟨s, f, hn⟩
    unfold Format.word Format.read at hn
    rw [e3] at hr
    rw [e1, e2, e3] at hn
    have hm : (if neg = true then 9223372036854775808 + r else r) % 9223372036854775808 = r := by split <;> omega
    simp only [hm] at hn
    split at hn
    · cases hn
    · split at hn
      · cases hn
      · split at hn
        · cases hn
        · omega
  cases d with
  | number neg m p =>
    show ¬ Nan (double.nearest neg m p)
    unfold Format.nearest
    split
    · exact key _ _ (by rw [e3]; omega)
    · exact key _ _ (Nat.min_le_right _ _)
  | infinity neg => exact key _ _ (Nat.le_refl _)
  | nan s f => exact absurd rfl (h s f)

/-- Below a whole number: the difference to a whole number, and that over a whole number that is not 0, are no NaNs. -/
theorem gt_valid {a b c n : Nat} (hb : b < 9007199254740992) (hc : c < 9007199254740992) (hc0 : c ≠ 0) (h : double.order (R a) n = some .gt) :
    ∃ q r, double.sub n (R b) = some q ∧ double.div q (R c) = some r := by
  obtain ⟨k, hk⟩ := stands_R hb
  have hn : ∀ s f, double.read n ≠ .nan s f := by
    intro s f e
    rw [order_nan (.inr ⟨s, f, e⟩)] at h
    cases h
  have h1 : ∃ d, (double.read n).sum (double.read (R b)).opposite = some d ∧ ∀ s f, d ≠ .nan s f := by
    rw [hk]
    cases hr : double.read n with
    | number s m i => exact ⟨_, rfl, fun s f e => by cases e⟩
    | infinity s => exact ⟨_, rfl, fun s f e => by cases e⟩
    | nan s f => exact absurd hr (hn s f)
  obtain ⟨d, hd, hdn⟩ := h1
  refine ⟨double.write d, ?_⟩
  have hw := read_write hdn
  have h2 : ∃ e, (double.read (double.write d)).quotient (double.fractionBits + 2) (double.read (R c)) = some e := by
    rw [read_R hc0 hc]
    have hm : c * 2 ^ (52 - c.log2) ≠ 0 := Nat.mul_ne_zero hc0 (Nat.pos_iff_ne_zero.1 (Nat.pow_pos (by omega)))
    cases hr : double.read (double.write d) with
    | number s m i => simp [Datum.quotient, hm]
    | infinity s => exact ⟨_, rfl⟩
    | nan s f => exact absurd ⟨s, f, hr⟩ hw
  obtain ⟨e, he⟩ := h2
  refine ⟨double.write e, ?_, ?_⟩
  · unfold Format.sub; rw [hd]; rfl
  · unfold Format.div; rw [he]; rfl

end Go.Proofs.YbulkdjfsDoor.Fl
