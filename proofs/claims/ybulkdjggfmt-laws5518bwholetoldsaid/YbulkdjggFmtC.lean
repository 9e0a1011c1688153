/-
  sort.siftDown_func (func 53), sort.heapSort_func (func 45) over a 'less' that may lay blocks.
-/
import Derived.Test.YbulkdjggFmtB
import Derived.Deep.LoopGhost
namespace Go.Proofs.YbulkdjggFmt
open Go.RowKit Go.Sort

/-- A call of the family is on: begun in w, its boxed 'data' in block bd; the row holds d. -/
structure Ss (blk off size B : Nat) (l0 l1 : Value) (sf : Nat) (s0 s1 : Value) (Cx : Ctx) (w : World) (bd : Nat) (W : World) (d : Array Pt) : Prop where
  sv : Sv blk off size B Cx W d
  dt : Dt l0 l1 sf s0 s1 W bd
  ot : Ot (fun k => k = blk) w W

section
variable {blk off size B : Nat} {lt : Pt → Pt → Bool} {l0 l1 : Value} {sf : Nat} {s0 s1 : Value} {Cx : Ctx} {w W W' : World} {bd : Nat} {d : Array Pt}

theorem Ss.new (hS : Srt blk off size B lt l0 l1 sf s0 s1 Cx) (hv : Sv blk off size B Cx w d) :
    Ss blk off size B l0 l1 sf s0 s1 Cx w w.heap.size (w.alloc (.cells #[.func (.func 22) #[] #[l0, l1], .func (.func sf) #[] #[s0, s1]] 72)) d :=
  ⟨hv.ot hS ((Ot.refl (fun _ => False) w).alloc _) (fun _ h => h.elim), Dt.new .., (Ot.refl _ _).alloc _⟩

/-- Whatever turns only blocks of the call's own. -/
theorem Ss.far (h : Ss blk off size B l0 l1 sf s0 s1 Cx w bd W d) (hS : Srt blk off size B lt l0 l1 sf s0 s1 Cx) {S : Nat → Prop} (ho : Ot S W W') (hs : ∀ k, S k → w.heap.size ≤ k ∧ k ≠ bd) (hB : B ≤ w.heap.size) : Ss blk off size B l0 l1 sf s0 s1 Cx w bd W' d :=
  ⟨h.sv.ot hS ho (fun k hk => Nat.le_trans hB (hs k hk).1), h.dt.ot ho (fun hk => (hs _ hk).2 rfl), h.ot.step ho (fun i hi hl => by have := (hs i hi).1; omega)⟩

theorem Ss.below (h : Ss blk off size B l0 l1 sf s0 s1 Cx w bd W d) (hS : Srt blk off size B lt l0 l1 sf s0 s1 Cx) (hb : Below W.heap.size W W') : Ss blk off size B l0 l1 sf s0 s1 Cx w bd W' d :=
  ⟨h.sv.below hS hb, h.dt.ot (Ot.of_below (fun _ => False) hb) (fun h => h), h.ot.step (Ot.of_below (fun _ => False) hb) (fun _ h _ => h.elim)⟩

/-- A callee of the family. -/
theorem Ss.callee (h : Ss blk off size B l0 l1 sf s0 s1 Cx w bd W d) {d' : Array Pt} (hv : Sv blk off size B Cx W' d') (ho : Ot (fun k => k = blk) W W') (hb : bd ≠ blk) : Ss blk off size B l0 l1 sf s0 s1 Cx w bd W' d' :=
  ⟨hv, h.dt.ot ho hb, h.ot.trans ho⟩

theorem Ss.less (h : Ss blk off size B l0 l1 sf s0 s1 Cx w bd W d) (hS : Srt blk off size B lt l0 l1 sf s0 s1 Cx) (I J : Int) (h0 : 0 ≤ I) (h1 : I < size) (h2 : 0 ≤ J) (h3 : J < size) :
    Calls Ybaf.prog 22 #[.int .i64 I, .int .i64 J, l0, l1] W fun e w' => e = .returned (.bool (lt d[I.toNat]! d[J.toNat]!)) ∧ Ss blk off size B l0 l1 sf s0 s1 Cx w bd w' d := by
  have := h.sv.lessAt hS I.toNat J.toNat (by omega) (by omega)
  rw [Int.toNat_of_nonneg h0, Int.toNat_of_nonneg h2] at this
  exact this.mono fun _ _ ⟨k1, _, k3⟩ => ⟨k1, h.below hS k3⟩

theorem Ss.swap (h : Ss blk off size B l0 l1 sf s0 s1 Cx w bd W d) (hS : Srt blk off size B lt l0 l1 sf s0 s1 Cx) (hb : bd ≠ blk) (I J : Int) (i j : Nat) (hI : I = i) (hJ : J = j) (hi : i < size) (hj : j < size) :
    ∃ w', (callFunc sf #[.int .i64 I, .int .i64 J, s0, s1]).run Ybaf.prog W = .ok (.value (.tuple #[])) w' ∧ Ss blk off size B l0 l1 sf s0 s1 Cx w bd w' (swp d i j) := by
  obtain ⟨w', h1, h2, h3⟩ := h.sv.swapAt hS i j hi hj
  subst hI
  subst hJ
  exact ⟨w', h1, h.callee h2 h3 hb⟩

theorem sdA {hi first root : Nat} {dk : Array Pt} (h1 : 2 * (root : Int) + 1 + 1 < hi) (h2 : lt dk[first + (2 * root + 1)]! dk[first + (2 * root + 1) + 1]! = true) (h3 : (!lt dk[first + root]! dk[first + (2 * root + 1 + 1)]!) = true) : siftDown lt hi first root dk = dk :=
  sd_right_stop lt dk (by omega) h2 (by simpa using h3)
theorem sdB {hi first root : Nat} {dk : Array Pt} (h1 : 2 * (root : Int) + 1 + 1 < hi) (h2 : lt dk[first + (2 * root + 1)]! dk[first + (2 * root + 1) + 1]! = true) (h3 : (!lt dk[first + root]! dk[first + (2 * root + 1 + 1)]!) = false) :
    siftDown lt hi first root dk = siftDown lt hi first (2 * root + 2) (swp dk (first + root) (first + (2 * root + 2))) :=
  sd_right_go lt dk (by omega) h2 (by simpa using h3)
theorem sdC {hi first root : Nat} {dk : Array Pt} (h0 : 2 * (root : Int) + 1 < hi) (h1 : 2 * (root : Int) + 1 + 1 < hi → lt dk[first + (2 * root + 1)]! dk[first + (2 * root + 1) + 1]! = false) (h3 : (!lt dk[first + root]! dk[first + (2 * root + 1)]!) = true) : siftDown lt hi first root dk = dk :=
  sd_left_stop lt dk (by omega) (fun h => h1 (by omega)) (by simpa using h3)
theorem sdD {hi first root : Nat} {dk : Array Pt} (h0 : 2 * (root : Int) + 1 < hi) (h1 : 2 * (root : Int) + 1 + 1 < hi → lt dk[first + (2 * root + 1)]! dk[first + (2 * root + 1) + 1]! = false) (h3 : (!lt dk[first + root]! dk[first + (2 * root + 1)]!) = false) :
    siftDown lt hi first root dk = siftDown lt hi first (2 * root + 1) (swp dk (first + root) (first + (2 * root + 1))) :=
  sd_left_go lt dk (by omega) (fun h => h1 (by omega)) (by simpa using h3)

set_option maxHeartbeats 2000000 in
set_option maxRecDepth 100000 in
theorem sift_any (hS : Srt blk off size B lt l0 l1 sf s0 s1 Cx) (lo hi first : Nat) (d : Array Pt) (w : World) (hv : Sv blk off size B Cx w d) (hlo : lo ≤ hi) (hb : first + hi ≤ size) :
    Calls Ybaf.prog 53 #[.agg #[.func (.func 22) #[] #[l0, l1], .func (.func sf) #[] #[s0, s1]], .int .i64 lo, .int .i64 hi, .int .i64 first] w fun e w' =>
      e = .returned (.tuple #[]) ∧ Sv blk off size B Cx w' (siftDown lt hi first lo d) ∧ Ot (fun k => k = blk) w w' := by
  have v1 := Ss.new hS hv
  have hbB := hv.big
  have hlow := hS.low
  have hsm := hS.small
  have hne : w.heap.size ≠ blk := by omega
  have HS := hide hS
  clear hv hS
  go_enter Ybaf.func53, Ybaf.ntmps53
  go_wp2
  go_loopg [8] (hi - lo) (fun kx s8 wr => ∃ (root : Nat) (dk : Array Pt), s8 = .int .i64 root ∧ root ≤ hi ∧ hi - root ≤ kx ∧ Ss blk off size B l0 l1 sf s0 s1 Cx w w.heap.size wr dk ∧ siftDown lt hi first root dk = siftDown lt hi first lo d)
  case atStart => exact ⟨lo, d, rfl, hlo, Nat.le_refl _, v1, rfl⟩
  case round =>
    clear v1
    obtain ⟨root, dk, rfl, hr, hkx, hs, hE⟩ := hrel
    have c0 := hs.dt.c0
    have c1 := hs.dt.c1
    have HE := hide hE
    clear hE
    go_wp2_with (first
      | (go_at_call 22; refine (Ss.less (by assumption) HS.out _ _ (by omega) (by omega) (by omega) (by omega)).mono ?_; rintro e w2 ⟨rfl, h2⟩; have c2 := h2.dt.c0; have c3 := h2.dt.c1)
      | fail)
    · go_end0
      refine ⟨rfl, ?_, hs.ot⟩
      rw [← HE.out, sd_end lt dk (by omega)]
      exact hs.sv
    · refine bodyPost_ret (results_none rfl _ _ _) rfl ⟨rfl, ?_, h2.ot⟩
      rw [← HE.out, sdA (by assumption) (by assumption) (by assumption)]
      exact h2.sv
    · have he := sdB (lt := lt) (by assumption) (by assumption) (by assumption)
      obtain ⟨w3, hr3, h3⟩ := h2.swap HS.out hne (first + root) (first + (2 * root + 1 + 1)) (first + root) (first + (2 * root + 2)) (by omega) (by omega) (by omega) (by omega)
      have HX := hide (And.intro he h3)
      clear he h3
      rw [hr3, Oper.upon_value]
      go_wp2
      go_roundg (hi - (2 * root + 2))
      case measure => omega
      case rel => exact ⟨2 * root + 2, _, by go_num, by omega, Nat.le_refl _, HX.out.2, by rw [← HE.out, HX.out.1]⟩
    · refine bodyPost_ret (results_none rfl _ _ _) rfl ⟨rfl, ?_, h2.ot⟩
      rw [← HE.out, sdC (by assumption) (fun _ => by assumption) (by assumption)]
      exact h2.sv
    · have he := sdD (lt := lt) (hi := hi) (first := first) (root := root) (dk := dk) (by assumption) (fun _ => by assumption) (by assumption)
      obtain ⟨w3, hr3, h3⟩ := h2.swap HS.out hne (first + root) (first + (2 * root + 1)) (first + root) (first + (2 * root + 1)) (by omega) (by omega) (by omega) (by omega)
      have HX := hide (And.intro he h3)
      clear he h3
      rw [hr3, Oper.upon_value]
      go_wp2
      go_roundg (hi - (2 * root + 1))
      case measure => omega
      case rel => exact ⟨2 * root + 1, _, by go_num, by omega, Nat.le_refl _, HX.out.2, by rw [← HE.out, HX.out.1]⟩
    · refine bodyPost_ret (results_none rfl _ _ _) rfl ⟨rfl, ?_, h2.ot⟩
      rw [← HE.out, sdC (by assumption) (fun _ => by omega) (by assumption)]
      exact h2.sv
    · have he := sdD (lt := lt) (hi := hi) (first := first) (root := root) (dk := dk) (by assumption) (fun _ => by omega) (by assumption)
      obtain ⟨w3, hr3, h3⟩ := h2.swap HS.out hne (first + root) (first + (2 * root + 1)) (first + root) (first + (2 * root + 1)) (by omega) (by omega) (by omega) (by omega)
      have HX := hide (And.intro he h3)
      clear he h3
      rw [hr3, Oper.upon_value]
      go_wp2
      go_roundg (hi - (2 * root + 1))
      case measure => omega
      case rel => exact ⟨2 * root + 1, _, by go_num, by omega, Nat.le_refl _, HX.out.2, by rw [← HE.out, HX.out.1]⟩
end

end Go.Proofs.YbulkdjggFmt
