/-
  sort.heapSort_func (func 45) over a 'less' that may lay blocks.
-/
import Derived.Test.YbulkdjggFmtC
namespace Go.Proofs.YbulkdjggFmt
open Go.RowKit Go.Sort

section
variable {blk off size B : Nat} {lt : Pt → Pt → Bool} {l0 l1 : Value} {sf : Nat} {s0 s1 : Value} {Cx : Ctx}

set_option maxHeartbeats 2000000 in
set_option maxRecDepth 100000 in
theorem heap_any (hS : Srt blk off size B lt l0 l1 sf s0 s1 Cx) (a b : Nat) (d : Array Pt) (w : World) (hv : Sv blk off size B Cx w d) (hab : a < b) (hb : b ≤ size) :
    Calls Ybaf.prog 45 #[.agg #[.func (.func 22) #[] #[l0, l1], .func (.func sf) #[] #[s0, s1]], .int .i64 a, .int .i64 b] w fun e w' =>
      e = .returned (.tuple #[]) ∧ Sv blk off size B Cx w' (heapSort lt d a b) ∧ Ot (fun k => k = blk) w w' := by
  have v1 := Ss.new hS hv
  have hbB := hv.big
  have hlow := hS.low
  have hsm := hS.small
  have hne : w.heap.size ≠ blk := by omega
  have HS := hide hS
  clear hv hS
  obtain ⟨hi, hhi⟩ : ∃ hi, hi = b - a := ⟨_, rfl⟩
  have hq : ((b : Int) - (a : Int)) = (hi : Int) := by omega
  have hpos : 0 < hi := by omega
  have hfit : a + hi ≤ size := by omega
  unfold heapSort
  rw [← hhi]
  have HH := hide hhi
  clear hhi
  go_enter Ybaf.func45, Ybaf.ntmps45
  go_wp2
  clear hq
  go_loopg [9] ((hi - 1) / 2 + 1) (fun kx s9 wr => ∃ (k : Nat) (dk : Array Pt), s9 = .int .i64 ((k : Int) - 1) ∧ k ≤ kx ∧ k ≤ hi ∧ Ss blk off size B l0 l1 sf s0 s1 Cx w w.heap.size wr dk ∧ heapBuild lt hi a k dk = heapBuild lt hi a ((hi - 1) / 2 + 1) d)
  case atStart => exact ⟨(hi - 1) / 2 + 1, d, by congr 1; omega, Nat.le_refl _, by omega, v1, rfl⟩
  case round =>
    clear v1
    obtain ⟨k, dk, rfl, hkx, hkh, hs, hE⟩ := hrel
    have c0 := hs.dt.c0
    have c1 := hs.dt.c1
    cases k with
    | succ k =>
      have he : heapBuild lt hi a k (siftDown lt hi a k dk) = heapBuild lt hi a ((hi - 1) / 2 + 1) d := hE
      have hsf := sift_any HS.out k hi a dk wr hs.sv (by omega) hfit
      have HX := hide (And.intro he (And.intro hs hsf))
      rw [show (((k + 1 : Nat) : Int) - 1) = (k : Int) by omega]
      clear hE he hs hsf
      go_wp2_with (first
        | (go_at_call 53; refine HX.out.2.2.mono ?_; rintro e w2 ⟨rfl, v2, o2⟩
           have h2 := HX.out.2.1.callee v2 o2 hne
           clear v2 o2)
        | fail)
      go_roundg k
      case measure => omega
      case rel => exact ⟨k, _, rfl, Nat.le_refl _, by omega, h2, HX.out.1⟩
    | zero =>
      have HE := hide hE
      have he : dk = heapBuild lt hi a ((hi - 1) / 2 + 1) d := hE
      have HE2 := hide he
      clear hE he HE
      go_wp2
      clear c0 c1
      go_loopg [10] hi (fun kx s10 wx => ∃ (k : Nat) (dj : Array Pt), s10 = .int .i64 ((k : Int) - 1) ∧ k ≤ kx ∧ k ≤ hi ∧ Ss blk off size B l0 l1 sf s0 s1 Cx w w.heap.size wx dj ∧ heapPop lt a k dj = heapPop lt a hi (heapBuild lt hi a ((hi - 1) / 2 + 1) d))
      case atStart => exact ⟨hi, dk, rfl, Nat.le_refl _, Nat.le_refl _, hs, by rw [HE2.out]⟩
      case round =>
        clear hs
        obtain ⟨k, dj, rfl, hkx, hkh, hs, hE⟩ := hrel
        have c0 := hs.dt.c0
        have c1 := hs.dt.c1
        cases k with
        | succ k =>
          have he : heapPop lt a k (siftDown lt k a 0 (swp dj a (a + k))) = heapPop lt a hi (heapBuild lt hi a ((hi - 1) / 2 + 1) d) := hE
          obtain ⟨w3, hr3, h3⟩ := hs.swap HS.out hne a (a + k) a (a + k) rfl (by omega) (by omega) (by omega)
          have d0 := h3.dt.c0
          have d1 := h3.dt.c1
          have hsf := sift_any HS.out 0 k a _ w3 h3.sv (by omega) (by omega)
          have HX := hide (And.intro he (And.intro h3 hsf))
          rw [show (((k + 1 : Nat) : Int) - 1) = (k : Int) by omega]
          clear hE he hs hsf h3
          go_wp2_with (first
            | (go_at_call 53; refine HX.out.2.2.mono ?_; rintro e w2 ⟨rfl, v2, o2⟩
               have h2 := HX.out.2.1.callee v2 o2 hne
               clear v2 o2)
            | fail)
          go_roundg k
          case measure => omega
          case rel => exact ⟨k, _, rfl, Nat.le_refl _, by omega, h2, HX.out.1⟩
        | zero =>
          have he : dj = heapPop lt a hi (heapBuild lt hi a ((hi - 1) / 2 + 1) d) := hE
          have HE3 := hide he
          clear hE he
          go_wp2
          go_end0
          refine ⟨rfl, ?_, hs.ot⟩
          rw [← HE3.out]
          exact hs.sv
end

end Go.Proofs.YbulkdjggFmt
