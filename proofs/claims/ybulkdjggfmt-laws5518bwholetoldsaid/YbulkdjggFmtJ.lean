/-
  sort.breakPatterns_func (46) and sort.reverseRange_func (48): they do not compare: the shelf's contracts, in the frame of the others.
-/
import Derived.Test.YbulkdjggFmtI
import Derived.Test.YbulkdjggFmtShelf
namespace Go.Proofs.YbulkdjggFmt
open Go.RowKit Go.Sort

theorem ot_mapped (w : World) (blk n : Nat) (f : Array Value → Array Value) (os : Array Obj) : Ot (fun k => k = blk) w (grow (mapBlock (Sort.ahead w n) blk f) os) := by
  refine ⟨rfl, rfl, rfl, by simp [grow, mapBlock, Sort.ahead], ?_⟩
  intro k hk hs
  have hs' : ¬ blk = k := fun h => hs h.symm
  show (w.heap.modify blk (onCells f) ++ os)[k]? = w.heap[k]?
  rw [Array.getElem?_append_left (by simpa using hk), Array.getElem?_modify]
  simp [hs']

theorem ot_sortWorldK (w : World) (blk off n : Nat) (d : Array Pt) (os : Array Obj) : Ot (fun k => k = blk) w (sortWorldK enc 2 w blk off n d os) := ot_mapped ..

section
variable {blk off size B : Nat} {lt : Pt → Pt → Bool} {l0 l1 : Value} {sf : Nat} {s0 s1 : Value} {Cx : Ctx}

theorem sv_sortWorldK (hS : Srt blk off size B lt l0 l1 sf s0 s1 Cx) {d d' : Array Pt} {w : World} (hv : Sv blk off size B Cx w d) {a b : Nat} (hp : PermIn a b d d') (hb : b ≤ size) (n : Nat) (os : Array Obj) :
    Sv blk off size B Cx (sortWorldK enc 2 w blk off n d' os) d' ∧ Ot (fun k => k = blk) w (sortWorldK enc 2 w blk off n d' os) := by
  have ho := ot_sortWorldK w blk off n d' os
  have hlow := hS.low
  have hbig := hv.big
  have hs := hp.1
  have hl := hv.len
  have hok : ∀ t, t < size → Cx.q d'[t]! := fun t ht => by
    by_cases h : a ≤ t ∧ t < b
    · exact permIn_all d d' a b Cx.q (by omega) hp (fun u _ hu => hv.ok u (by omega)) t h.1 h.2
    · rw [hp.2.1 t (by omega)]; exact hv.ok t ht
  exact ⟨⟨hS.keep _ _ hv.cx (ho.mono (fun k hk _ => .inl hk)), holdsK_sortWorldK enc 2 w blk off n d d' os (by omega) hv.row hs, hs.trans hv.len, Nat.le_trans hbig ho.size, hok⟩, ho⟩

theorem break_any (hS : Srt blk off size B lt l0 l1 sf s0 s1 Cx) (a b : Nat) (d : Array Pt) (w : World) (hv : Sv blk off size B Cx w d) (hab : a ≤ b) (hb : b ≤ size) :
    Calls Ybaf.prog 46 #[.agg #[.func (.func 22) #[] #[l0, l1], .func (.func sf) #[] #[s0, s1]], .int .i64 a, .int .i64 b] w fun e w' =>
      e = .returned (.tuple #[]) ∧ Sv blk off size B Cx w' (breakPatterns d a b) ∧ Ot (fun k => k = blk) w w' := by
  have hlow := hS.low
  have hbig := hv.big
  refine (Any.breakPatterns_func_cells_w Ybaf.laysGg28 enc 2 enc_len (.func 22) #[] #[l0, l1] sf #[s0, s1] blk off a b d w (by rw [hv.len]; exact hS.swap) hv.row (by omega) hab (by rw [hv.len]; exact hb) (by rw [hv.len]; exact hS.small)).mono ?_
  rintro e w' ⟨rfl, n, os, rfl⟩
  have hp := breakPatterns_holds d a b hab (by rw [hv.len]; exact hb)
  exact ⟨rfl, sv_sortWorldK hS hv hp hb n os⟩

theorem rev_any (hS : Srt blk off size B lt l0 l1 sf s0 s1 Cx) (a b : Nat) (d : Array Pt) (w : World) (hv : Sv blk off size B Cx w d) (hab : a ≤ b) (hb : b ≤ size) :
    Calls Ybaf.prog 48 #[.agg #[.func (.func 22) #[] #[l0, l1], .func (.func sf) #[] #[s0, s1]], .int .i64 a, .int .i64 b] w fun e w' =>
      e = .returned (.tuple #[]) ∧ Sv blk off size B Cx w' (reverseRange d a b) ∧ Ot (fun k => k = blk) w w' := by
  have hlow := hS.low
  have hbig := hv.big
  refine (Any.reverseRange_func_cells_w Ybaf.laysGg30 enc 2 enc_len (.func 22) #[] #[l0, l1] sf #[s0, s1] blk off a b d w (by rw [hv.len]; exact hS.swap) hv.row (by omega) hab (by rw [hv.len]; exact hb) (by rw [hv.len]; exact hS.small)).mono ?_
  rintro e w' ⟨rfl, n, os, rfl⟩
  have hp := reverseRange_holds d a b hab (by rw [hv.len]; exact hb)
  exact ⟨rfl, sv_sortWorldK hS hv hp hb n os⟩
end

end Go.Proofs.YbulkdjggFmt
