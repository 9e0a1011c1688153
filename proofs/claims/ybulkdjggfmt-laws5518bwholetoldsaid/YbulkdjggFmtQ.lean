/-
  sort.Search (24) at find$1 (25), (*Ring).find (14), (*Ring).arcStart (15).
-/
import Derived.Test.YbulkdjggFmtM
import Derived.Deep.LoopGhost
namespace Go.Proofs.YbulkdjggFmt
open Go.RowKit Go.Sort

/-- The first point at or after h; the number of points where there is none. -/
def firstGe (pts : Array Pt) (h : Nat) : Nat := ((List.range pts.size).find? fun t => decide (h ≤ pts[t]!.1)).getD pts.size
/-- The point that owns h. -/
def fnd (pts : Array Pt) (h : Nat) : Nat := if firstGe pts h = pts.size then 0 else firstGe pts h
/-- The position of the point before. -/
def arc (pts : Array Pt) (i : Nat) : Nat := if i = 0 then pts[pts.size - 1]!.1 else pts[i - 1]!.1

theorem firstGe_eq (pts : Array Pt) (h i : Nat) (hi : i ≤ pts.size) (h1 : ∀ t, t < i → pts[t]!.1 < h) (h2 : i < pts.size → h ≤ pts[i]!.1) : firstGe pts h = i := by
  unfold firstGe
  by_cases hl : i < pts.size
  · have : (List.range pts.size).find? (fun t => decide (h ≤ pts[t]!.1)) = some i := by
      rw [List.find?_range_eq_some]
      refine ⟨by simpa using h2 hl, by simpa using hl, fun j hj => ?_⟩
      have := h1 j hj
      simp; omega
    rw [this]; rfl
  · have : (List.range pts.size).find? (fun t => decide (h ≤ pts[t]!.1)) = none := by
      rw [List.find?_range_eq_none]
      intro j hj
      have := h1 j (by omega)
      simp; omega
    rw [this]; show pts.size = i; omega

/-- The points, as the ring's field and its row hold them. -/
structure Pts (R pb cp : Nat) (pts : Array Pt) (W : World) : Prop where
  c3 : W.cell? ⟨R, 3, none⟩ = some (.slice (some ⟨pb, 0, none⟩) pts.size cp)
  row : HoldsK enc 2 W pb 0 pts

theorem Pts.ot {R pb cp : Nat} {pts : Array Pt} {W W' : World} {S : Nat → Prop} (h : Pts R pb cp pts W) (ho : Ot S W W') (h0 : ¬ S R) (h1 : ¬ S pb) : Pts R pb cp pts W' := ⟨ho.cellv h.c3 h0, holds_ot h.row ho h1⟩
theorem Pts.below {R pb cp : Nat} {pts : Array Pt} {W W' : World} (h : Pts R pb cp pts W) (ho : Below W.heap.size W W') : Pts R pb cp pts W' := h.ot (Ot.of_below (fun _ => False) ho) (fun h => h) (fun h => h)
theorem Pts.pos {R pb cp : Nat} {pts : Array Pt} {W : World} (h : Pts R pb cp pts W) {t : Nat} (ht : t < pts.size) : W.cell? ⟨pb, t * 2, none⟩ = some (.int .u64 pts[t]!.1) := by
  have := (row_at h.row ht).1
  rwa [Nat.zero_add] at this

set_option maxHeartbeats 1000000 in
set_option maxRecDepth 100000 in
theorem find1_at (R pb cp b0 b1 h t : Nat) (pts : Array Pt) (W : World) (hp : Pts R pb cp pts W) (h0 : W.cell? ⟨b0, 0, none⟩ = some (.pointer (some ⟨R, 0, none⟩))) (h1 : W.cell? ⟨b1, 0, none⟩ = some (.int .u64 h)) (ht : t < pts.size) :
    Calls Ybaf.prog 25 #[.int .i64 t, .pointer (some ⟨b0, 0, none⟩), .pointer (some ⟨b1, 0, none⟩)] W fun e w' => e = .returned (.bool (decide (h ≤ pts[t]!.1))) ∧ ∃ q, w' = W.drewN q := by
  have c3 := hp.c3
  have cp' := hp.pos ht
  have hti : (t : Int) < pts.size := by omega
  clear hp
  generalize pts[t]!.1 = x at cp' ⊢
  go_enter Ybaf.func25, Ybaf.ntmps25
  go_upto_region 1 with (fail)
  go_quiet (fail)
  go_wp2
  go_ret
  exact ⟨rfl, nq, rfl⟩

set_option maxHeartbeats 1000000 in
set_option maxRecDepth 100000 in
theorem search_at (R pb cp b0 b1 h : Nat) (pts : Array Pt) (hsz : pts.size < 4611686018427387904) (hso : ∀ i j, i < j → j < pts.size → pts[i]!.1 ≤ pts[j]!.1) (W : World) (hp : Pts R pb cp pts W) (h0 : W.cell? ⟨b0, 0, none⟩ = some (.pointer (some ⟨R, 0, none⟩))) (h1 : W.cell? ⟨b1, 0, none⟩ = some (.int .u64 h)) :
    Calls Ybaf.prog 24 #[.int .i64 pts.size, .func (.func 25) #[] #[.pointer (some ⟨b0, 0, none⟩), .pointer (some ⟨b1, 0, none⟩)]] W fun e w' => e = .returned (.int .i64 (firstGe pts h)) ∧ ∃ q, w' = W.drewN q := by
  have hl : ∀ q t, t < pts.size → Calls Ybaf.prog 25 #[.int .i64 t, .pointer (some ⟨b0, 0, none⟩), .pointer (some ⟨b1, 0, none⟩)] (W.drewN q) fun e w' => e = .returned (.bool (decide (h ≤ pts[t]!.1))) ∧ ∃ q, w' = W.drewN q := fun q t ht =>
    (find1_at R pb cp b0 b1 h t pts (W.drewN q) ⟨hp.c3, hp.row⟩ h0 h1 ht).mono fun e w' ⟨k1, q', k2⟩ => ⟨k1, q + q', by rw [k2, World.drewN_drewN]⟩
  have HL := hide hl
  have HSO := hide hso
  clear hl hso hp h0 h1
  go_enter Ybaf.func24, Ybaf.ntmps24
  go_wp2
  go_loopg [5, 6] pts.size (fun kx v5 v6 wr => ∃ (i j q : Nat), v5 = .int .i64 i ∧ v6 = .int .i64 j ∧ i ≤ j ∧ j ≤ pts.size ∧ j - i ≤ kx ∧ wr = W.drewN q ∧ (∀ t, t < i → pts[t]!.1 < h) ∧ (j < pts.size → h ≤ pts[j]!.1))
  case atStart => exact ⟨0, pts.size, 0, rfl, rfl, Nat.zero_le _, Nat.le_refl _, Nat.le_refl _, rfl, fun t ht => by omega, fun h => by omega⟩
  case round =>
    obtain ⟨i, j, q, rfl, rfl, hij, hjn, hkx, rfl, hI, hJ⟩ := hrel
    have HI := hide (And.intro hI hJ)
    clear hI hJ
    by_cases hlt : i < j
    · have hlti : (i : Int) < j := by omega
      go_upto_region 4 with (fail)
      obtain ⟨m, hm⟩ : ∃ m : Nat, m = (i + j) / 2 := ⟨_, rfl⟩
      rw [show ((i : Int) + j) / 2 = (m : Int) by omega]
      have hm1 : i ≤ m ∧ m < j := by omega
      clear hm
      have hc := HL.out q m (by omega)
      have hH := HI.out
      cases hb : decide (h ≤ pts[m]!.1) with
      | false =>
        have hmh : pts[m]!.1 < h := by simpa using hb
        rw [hb] at hc
        have HX := hide (And.intro hH hmh)
        clear hH hmh hb
        go_wp2_with (go_at_call 25; refine hc.mono ?_; rintro e w' ⟨rfl, q', rfl⟩)
        go_roundg (j - (m + 1))
        case measure => omega
        case rel =>
          refine ⟨m + 1, j, q', by go_num, rfl, by omega, hjn, Nat.le_refl _, rfl, fun t ht => ?_, HX.out.1.2⟩
          have h2 := HX.out.2
          rcases Nat.lt_or_ge t m with hl | hl
          · have := HSO.out t m hl (by omega)
            omega
          · rw [show t = m by omega]; exact h2
      | true =>
        have hmh : h ≤ pts[m]!.1 := by simpa using hb
        rw [hb] at hc
        have HX := hide (And.intro hH hmh)
        clear hH hmh hb
        go_wp2_with (go_at_call 25; refine hc.mono ?_; rintro e w' ⟨rfl, q', rfl⟩)
        go_roundg (m - i)
        case measure => omega
        case rel => exact ⟨i, m, q', rfl, rfl, by omega, by omega, Nat.le_refl _, rfl, HX.out.1.1, fun _ => HX.out.2⟩
    · have hlti : ¬ (i : Int) < j := by omega
      go_wp2
      go_ret
      refine ⟨?_, q, rfl⟩
      have : i = j := by omega
      subst this
      rw [firstGe_eq pts h i hjn HI.out.1 HI.out.2]
      rfl

theorem fnd_lt (pts : Array Pt) (h : Nat) (h0 : 0 < pts.size) (hf : firstGe pts h ≤ pts.size) : fnd pts h < pts.size := by
  unfold fnd; split <;> omega

theorem firstGe_le (pts : Array Pt) (h : Nat) : firstGe pts h ≤ pts.size := by
  unfold firstGe
  cases hf : (List.range pts.size).find? (fun t => decide (h ≤ pts[t]!.1)) with
  | none => exact Nat.le_refl _
  | some i =>
    have := List.mem_of_find?_eq_some hf
    simp at this
    simp; omega

set_option maxHeartbeats 1000000 in
set_option maxRecDepth 100000 in
theorem find_at (R pb cp h : Nat) (pts : Array Pt) (hsz : pts.size < 4611686018427387904) (hso : ∀ i j, i < j → j < pts.size → pts[i]!.1 ≤ pts[j]!.1) (w : World) (hp : Pts R pb cp pts w) :
    Calls Ybaf.prog 14 #[.pointer (some ⟨R, 0, none⟩), .int .u64 h] w fun e w' => e = .returned (.int .i64 (fnd pts h)) ∧ Below w.heap.size w w' := by
  have hb : Below w.heap.size w ((w.alloc (.cells #[.pointer (some ⟨R, 0, none⟩)] 29)).alloc (.cells #[.int .u64 h] 28)) := ((Below.refl w.heap.size w).alloc (Nat.le_refl _) _).alloc (by simp) _
  have hp2 := hp.below hb
  have hc := search_at R pb cp w.heap.size (w.heap.size + 1) h pts hsz hso _ hp2 (by simp) (by simp)
  have c3 := hp2.c3
  have c3' : w.cell? ⟨R, 3, none⟩ = some (.slice (some ⟨pb, 0, none⟩) pts.size cp) := hp.c3
  have hlt := World.block_lt_of_cell? _ _ c3'
  have HB := hide hb
  have hle := firstGe_le pts h
  have HF := hide (show fnd pts h = if firstGe pts h = pts.size then 0 else firstGe pts h from rfl)
  generalize fnd pts h = F at HF ⊢
  generalize firstGe pts h = G at *
  clear hp hp2 hb
  dsimp only at hlt
  go_enter Ybaf.func14, Ybaf.ntmps14
  by_cases hG : G = pts.size
  · have hGi : (G : Int) = pts.size := by omega
    go_wp2_with (go_at_call 24; refine hc.mono ?_; rintro e w' ⟨rfl, q, rfl⟩)
    go_ret
    refine ⟨?_, below_drewN HB.out q⟩
    rw [HF.out, if_pos hG]
    rfl
  · have hGi : ¬ (G : Int) = pts.size := by omega
    go_wp2_with (go_at_call 24; refine hc.mono ?_; rintro e w' ⟨rfl, q, rfl⟩)
    go_ret
    refine ⟨?_, below_drewN HB.out q⟩
    rw [HF.out, if_neg hG]
    rfl

set_option maxHeartbeats 1000000 in
set_option maxRecDepth 100000 in
theorem arc_at (R pb cp i : Nat) (pts : Array Pt) (hsz : pts.size < 4611686018427387904) (hi : i < pts.size) (w : World) (hp : Pts R pb cp pts w) :
    Calls Ybaf.prog 15 #[.pointer (some ⟨R, 0, none⟩), .int .i64 i] w fun e w' => e = .returned (.int .u64 (arc pts i)) ∧ ∃ q, w' = w.drewN q := by
  have c3 := hp.c3
  by_cases h0 : i = 0
  · subst h0
    have cl := hp.pos (t := pts.size - 1) (by omega)
    have ha : arc pts 0 = pts[pts.size - 1]!.1 := rfl
    rw [ha]
    generalize pts[pts.size - 1]!.1 = x at cl ⊢
    have hs1 : ((pts.size : Int) - 1) = ((pts.size - 1 : Nat) : Int) := by omega
    have hs2 : ((pts.size - 1 : Nat) : Int) < pts.size := by omega
    clear hp ha
    generalize pts.size - 1 = m at *
    go_enter Ybaf.func15, Ybaf.ntmps15
    go_upto_region 2 with (fail)
    go_quiet (fail)
    go_wp2
    go_ret
    exact ⟨rfl, nq, rfl⟩
  · have cl := hp.pos (t := i - 1) (by omega)
    have ha : arc pts i = pts[i - 1]!.1 := if_neg h0
    rw [ha]
    generalize pts[i - 1]!.1 = x at cl ⊢
    have hs1 : ((i : Int) - 1) = ((i - 1 : Nat) : Int) := by omega
    have hs2 : ((i - 1 : Nat) : Int) < pts.size := by omega
    have h0i : ¬ (i : Int) = 0 := by omega
    clear hp ha
    generalize i - 1 = m at *
    go_enter Ybaf.func15, Ybaf.ntmps15
    go_wp2
    go_ret
    exact ⟨rfl, 0, rfl⟩

end Go.Proofs.YbulkdjggFmt
