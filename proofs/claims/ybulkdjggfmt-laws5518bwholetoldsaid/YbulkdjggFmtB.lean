/-
  sort.insertionSort_func (func 44) over a 'less' that may lay blocks.
-/
import Derived.Test.YbulkdjggFmtA
namespace Go.Proofs.YbulkdjggFmt
open Go.RowKit Go.Sort

/-- The boxed 'data': its two function values. -/
structure Dt (l0 l1 : Value) (sf : Nat) (s0 s1 : Value) (W : World) (bd : Nat) : Prop where
  c0 : W.cell? ⟨bd, 0, none⟩ = some (.func (.func 22) #[] #[l0, l1])
  c1 : W.cell? ⟨bd, 1, none⟩ = some (.func (.func sf) #[] #[s0, s1])

theorem Dt.ot {l0 l1 : Value} {sf : Nat} {s0 s1 : Value} {W W' : World} {bd : Nat} (h : Dt l0 l1 sf s0 s1 W bd) {S : Nat → Prop} (ho : Ot S W W') (hs : ¬ S bd) : Dt l0 l1 sf s0 s1 W' bd := ⟨ho.cellv h.c0 hs, ho.cellv h.c1 hs⟩
theorem Dt.new (l0 l1 : Value) (sf : Nat) (s0 s1 : Value) (w : World) : Dt l0 l1 sf s0 s1 (w.alloc (.cells #[.func (.func 22) #[] #[l0, l1], .func (.func sf) #[] #[s0, s1]] 72)) w.heap.size := ⟨by simp, by simp⟩

section
variable {blk off size B : Nat} {lt : Pt → Pt → Bool} {l0 l1 : Value} {sf : Nat} {s0 s1 : Value} {Cx : Ctx}

set_option maxHeartbeats 2000000 in
set_option maxRecDepth 100000 in
theorem ins_any (hS : Srt blk off size B lt l0 l1 sf s0 s1 Cx) (a b : Nat) (d : Array Pt) (w : World) (hv : Sv blk off size B Cx w d) (hab : a ≤ b) (hb : b ≤ size) :
    Calls Ybaf.prog 44 #[.agg #[.func (.func 22) #[] #[l0, l1], .func (.func sf) #[] #[s0, s1]], .int .i64 a, .int .i64 b] w fun e w' =>
      e = .returned (.tuple #[]) ∧ Sv blk off size B Cx w' (Sort.insertionSort lt d a b) ∧ Ot (fun k => k = blk) w w' := by
  have o1 : Ot (fun k => k = blk) w (w.alloc (.cells #[.func (.func 22) #[] #[l0, l1], .func (.func sf) #[] #[s0, s1]] 72)) := (Ot.refl _ _).alloc _
  have v1 := hv.ot hS ((Ot.refl (fun _ => False) w).alloc (.cells #[.func (.func 22) #[] #[l0, l1], .func (.func sf) #[] #[s0, s1]] 72)) (fun _ h => h.elim)
  have d1 := Dt.new l0 l1 sf s0 s1 w
  have hbB := hv.big
  have hlow := hS.low
  have hsm := hS.small
  have H0 := hide (And.intro v1 (And.intro d1 o1))
  have HS := hide hS
  clear hv hS v1 d1 o1
  go_enter Ybaf.func44, Ybaf.ntmps44
  go_wp2
  go_loopw [6] (fun vi wr => ∃ (i : Nat) (dk : Array Pt), vi = .int .i64 i ∧ a < i ∧ i ≤ b + 1 ∧ Sv blk off size B Cx wr dk ∧ Dt l0 l1 sf s0 s1 wr w.heap.size ∧ Ot (fun k => k = blk) w wr ∧ insOuter lt a b i dk = insOuter lt a b (a + 1) d) (fun vi _ => b + 1 - (intOf vi).toNat)
  case atStart => exact ⟨a + 1, d, by go_num, by omega, by omega, H0.out.1, H0.out.2.1, H0.out.2.2, rfl⟩
  case round =>
    clear H0
    obtain ⟨i, dk, rfl, hai, hib, hv, hd, ho, hO⟩ := hrel
    by_cases hlt : i < b
    · have hlti : (i : Int) < b := by omega
      have HR := hide (And.intro hv (And.intro hd (And.intro ho hO)))
      clear hv hd ho hO
      go_wp2
      go_loopw [7] (fun vj wx => ∃ (j : Nat) (dj : Array Pt), vj = .int .i64 j ∧ a ≤ j ∧ j ≤ i ∧ Sv blk off size B Cx wx dj ∧ Dt l0 l1 sf s0 s1 wx w.heap.size ∧ Ot (fun k => k = blk) w wx ∧ insInner lt a j dj = insInner lt a i dk) (fun vj _ => (intOf vj).toNat)
      case atStart => exact ⟨i, dk, rfl, by omega, Nat.le_refl _, HR.out.1, HR.out.2.1, HR.out.2.2.1, rfl⟩
      case round =>
        obtain ⟨j, dj, rfl, haj, hji, hv, hd, ho, hI⟩ := hrel
        have c0 := hd.c0
        have out : ∀ W, Sv blk off size B Cx W dj → Dt l0 l1 sf s0 s1 W w.heap.size → Ot (fun k => k = blk) w W → (j ≤ a ∨ lt dj[j]! dj[j - 1]! = false) →
            ∃ (i' : Nat) (dk' : Array Pt), Value.int .i64 ((i : Int) + 1) = .int .i64 (i' : Nat) ∧ a < i' ∧ i' ≤ b + 1 ∧ Sv blk off size B Cx W dk' ∧ Dt l0 l1 sf s0 s1 W w.heap.size ∧ Ot (fun k => k = blk) w W ∧ insOuter lt a b i' dk' = insOuter lt a b (a + 1) d := fun W h1 h2 h3 hs =>
          ⟨i + 1, dj, by go_num, by omega, by omega, h1, h2, h3, by rw [← HR.out.2.2.2, insOuter_go _ _ _ _ _ hlt, ← hI, insInner_stop _ _ _ _ hs]⟩
        have OUT := hide out
        have HI := hide hI
        clear out hI
        by_cases hja : a < j
        · have hjai : (a : Int) < j := by omega
          have hl := hv.lessAt HS.out j (j - 1) (by omega) (by omega)
          rw [show (((j - 1 : Nat) : Int)) = (j : Int) - 1 by omega] at hl
          have HV := hide (And.intro hv (And.intro hd ho))
          have HL := hide hl
          clear hv hd ho hl
          cases hlv : lt dj[j]! dj[j - 1]! with
          | true =>
            rw [hlv] at HL
            go_wp2_with (first
              | (go_at_call 22; refine HL.out.mono ?_; rintro e w2 ⟨rfl, v2, b2⟩
                 have o2 := HV.out.2.2.step (Ot.of_below (fun _ => False) b2) (fun _ h _ => h.elim)
                 have d2 := HV.out.2.1.ot (Ot.of_below (fun _ => False) b2) (fun h => h)
                 have c1 := d2.c1
                 obtain ⟨w3, hr3, v3, o3⟩ := v2.swapAt HS.out j (j - 1) (by omega) (by omega)
                 rw [show (((j - 1 : Nat) : Int)) = (j : Int) - 1 by omega] at hr3
                 have H3 := hide (And.intro v3 (And.intro (d2.ot o3 (by omega)) (o2.trans o3)))
                 clear v2 b2 o2 d2 v3 o3)
              | fail)
            exact ⟨⟨j - 1, swp dj j (j - 1), by rw [show ((j : Int) - 1) = ((j - 1 : Nat) : Int) by omega], by omega, by omega, H3.out.1, H3.out.2.1, H3.out.2.2, by rw [← HI.out, insInner_go lt a j dj hja hlv]⟩, by simp [intOf]; omega⟩
          | false =>
            rw [hlv] at HL
            go_wp2_with (first
              | (go_at_call 22; refine HL.out.mono ?_; rintro e w2 ⟨rfl, v2, b2⟩
                 have o2 := HV.out.2.2.step (Ot.of_below (fun _ => False) b2) (fun _ h _ => h.elim)
                 have d2 := HV.out.2.1.ot (Ot.of_below (fun _ => False) b2) (fun h => h)
                 have H2 := hide (And.intro v2 (And.intro d2 o2))
                 clear v2 b2 o2 d2)
              | fail)
            exact ⟨OUT.out _ H2.out.1 H2.out.2.1 H2.out.2.2 (.inr hlv), by simp [intOf]; omega⟩
        · have hjai : ¬ (a : Int) < j := by omega
          have HV := hide (And.intro hv (And.intro hd ho))
          clear hv hd ho
          go_wp2
          exact ⟨OUT.out _ HV.out.1 HV.out.2.1 HV.out.2.2 (.inl (by omega)), by simp [intOf]; omega⟩
    · have hlti : ¬ (i : Int) < b := by omega
      have HV := hide (And.intro hv (And.intro ho hO))
      clear hv hd ho hO
      go_wp2
      go_end0
      refine ⟨rfl, ?_, HV.out.2.1⟩
      unfold Sort.insertionSort
      rw [← HV.out.2.2, insOuter_stop _ _ _ _ _ hlt]
      exact HV.out.1
end

end Go.Proofs.YbulkdjggFmt
