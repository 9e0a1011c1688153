/-
  Hash (13) and the law's own zzs5518bhash (5).
-/
import Derived.Test.YbulkdjggFmtM
import Derived.Deep.LoopGhost
import Derived.Laws.Bits64
namespace Go.Proofs.YbulkdjggFmt
open Go.RowKit

theorem wrap_u64_range (x : Int) : 0 ≤ IntKind.u64.wrap x ∧ IntKind.u64.wrap x < 18446744073709551616 := by
  simp [IntKind.wrap, IntKind.bits, IntKind.signed]; omega

theorem xor_u64_range (a b : Int) (h0 : 0 ≤ a) (h1 : a < 18446744073709551616) (h2 : 0 ≤ b) (h3 : b < 18446744073709551616) : 0 ≤ bits .xor .u64 a b ∧ bits .xor .u64 a b < 18446744073709551616 := by
  obtain ⟨x, rfl⟩ := Int.eq_ofNat_of_zero_le h0
  obtain ⟨y, rfl⟩ := Int.eq_ofNat_of_zero_le h2
  have := bits_xor_u64_nat x y (by omega) (by omega)
  have hx : x ^^^ y < 2 ^ 64 := Nat.xor_lt_two_pow (by omega) (by omega)
  rw [this]
  omega

/-- FNV-1a's step. -/
def hstep (h : Int) (b : UInt8) : Int := IntKind.u64.wrap (bits .xor .u64 h (IntKind.u64.wrap b.toNat) * 1099511628211)
def fnvGo (s : ByteArray) : Nat → Nat → Int → Int
  | 0, _, h => h
  | n + 1, i, h => fnvGo s n (i + 1) (hstep h s[i]!)
def mix1 (h : Int) : Int := bits .xor .u64 h (h / 8589934592)
/-- The finaliser. -/
def mix (h : Int) : Int := mix1 (IntKind.u64.wrap (mix1 (IntKind.u64.wrap (mix1 h * 18397679294719823053)) * 14181476777654086739))
def hsh (s : ByteArray) : Int := mix (fnvGo s s.size 0 14695981039346656037)
/-- A string's position on the ring. -/
def hN (s : ByteArray) : Nat := (hsh s).toNat

theorem fnv_next (s : ByteArray) (i : Nat) (h : Int) (hlt : i < s.size) : fnvGo s (s.size - i) i h = fnvGo s (s.size - (i + 1)) (i + 1) (IntKind.u64.wrap (bits .xor .u64 h (IntKind.u64.wrap s[i].toNat) * 1099511628211)) := by
  rw [show s.size - i = (s.size - (i + 1)) + 1 by omega, fnvGo, hstep, getElem!_pos s i hlt]

theorem hsh_range (s : ByteArray) : 0 ≤ hsh s ∧ hsh s < 18446744073709551616 := by
  unfold hsh mix
  generalize mix1 (IntKind.u64.wrap (mix1 (fnvGo s s.size 0 14695981039346656037) * 18397679294719823053)) * 14181476777654086739 = x
  have := wrap_u64_range x
  unfold mix1
  exact xor_u64_range _ _ this.1 this.2 (by omega) (by omega)
theorem hN_int (s : ByteArray) : ((hN s : Nat) : Int) = hsh s := Int.toNat_of_nonneg (hsh_range s).1
theorem hN_lt (s : ByteArray) : hN s < 18446744073709551616 := by have := hsh_range s; unfold hN; omega

set_option maxHeartbeats 1000000 in
set_option maxRecDepth 100000 in
theorem hash_at (s : ByteArray) (hs : s.size ≤ 9223372036854775807) (w : World) :
    Calls Ybaf.prog 13 #[.string s] w fun e w' => e = .returned (.int .u64 (hN s : Nat)) ∧ w' = w := by
  rw [hN_int]
  have HH := hide (show hsh s = mix (fnvGo s s.size 0 14695981039346656037) from rfl)
  generalize hsh s = R at HH ⊢
  go_enter Ybaf.func13, Ybaf.ntmps13
  go_wp2
  go_loopg [3, 4] s.size (fun kx v3 v4 wr => ∃ (i : Nat) (h : Int), v3 = .int .u64 h ∧ v4 = .int .i64 i ∧ i ≤ s.size ∧ s.size - i ≤ kx ∧ 0 ≤ h ∧ h < 18446744073709551616 ∧ wr = w ∧ mix (fnvGo s (s.size - i) i h) = R)
  case atStart => exact ⟨0, _, rfl, rfl, Nat.zero_le _, Nat.le_refl _, by omega, by omega, rfl, HH.out.symm⟩
  case round =>
    clear HH
    obtain ⟨i, h, rfl, rfl, h1, h2, h3, h4, rfl, hE⟩ := hrel
    have HE := hide hE
    clear hE
    by_cases hlt : i < s.size
    · have hlti : (i : Int) < s.size := by omega
      go_wp2
      go_roundg (s.size - (i + 1))
      case measure => omega
      case rel =>
        refine ⟨i + 1, _, rfl, by go_num, by omega, Nat.le_refl _, (wrap_u64_range _).1, (wrap_u64_range _).2, rfl, ?_⟩
        exact (congrArg mix (fnv_next s i h hlt)).symm.trans HE.out
    · have hlti : ¬ (i : Int) < s.size := by omega
      go_wp2
      go_ret
      refine ⟨?_, rfl⟩
      rw [← HE.out, show s.size - i = 0 by omega]
      rfl

set_option maxHeartbeats 1000000 in
set_option maxRecDepth 100000 in
theorem zhash_at (s : ByteArray) (hs : s.size ≤ 9223372036854775807) (w : World) :
    Calls Ybaf.prog 5 #[.string s] w fun e w' => e = .returned (.int .u64 (hN s : Nat)) ∧ w' = w := by
  rw [hN_int]
  have HH := hide (show hsh s = mix (fnvGo s s.size 0 14695981039346656037) from rfl)
  generalize hsh s = R at HH ⊢
  go_enter Ybaf.func5, Ybaf.ntmps5
  go_wp2
  go_loopg [3, 4] s.size (fun kx v3 v4 wr => ∃ (i : Nat) (h : Int), v3 = .int .u64 h ∧ v4 = .int .i64 i ∧ i ≤ s.size ∧ s.size - i ≤ kx ∧ 0 ≤ h ∧ h < 18446744073709551616 ∧ wr = w ∧ mix (fnvGo s (s.size - i) i h) = R)
  case atStart => exact ⟨0, _, rfl, rfl, Nat.zero_le _, Nat.le_refl _, by omega, by omega, rfl, HH.out.symm⟩
  case round =>
    clear HH
    obtain ⟨i, h, rfl, rfl, h1, h2, h3, h4, rfl, hE⟩ := hrel
    have HE := hide hE
    clear hE
    by_cases hlt : i < s.size
    · have hlti : (i : Int) < s.size := by omega
      go_wp2
      go_roundg (s.size - (i + 1))
      case measure => omega
      case rel =>
        refine ⟨i + 1, _, rfl, by go_num, by omega, Nat.le_refl _, (wrap_u64_range _).1, (wrap_u64_range _).2, rfl, ?_⟩
        exact (congrArg mix (fnv_next s i h hlt)).symm.trans HE.out
    · have hlti : ¬ (i : Int) < s.size := by omega
      go_wp2
      go_ret
      refine ⟨?_, rfl⟩
      rw [← HE.out, show s.size - i = 0 by omega]
      rfl

end Go.Proofs.YbulkdjggFmt
