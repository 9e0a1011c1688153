/-
  'core.dropNames' (func 9) WITH THE PICKING CLOSURE.
-/
import Derived.Test.YbulkdjcmG
namespace Go.Proofs.Ybulkdjcm
open Go.RowKit Go.ChangeMaps Go.Sort

theorem Ot.frozen {S : Nat → Prop} {w w' : World} (h : Ot S w w') {p : Addr} (hp : p.block < w.heap.size) (hs : ¬ S p.block) : w'.frozen? p = w.frozen? p := World.frozen?_of_block (w := w) (h.block p.block hp hs)
theorem NR.kept {S : Nat → Prop} {w w' : World} {g : Nat} {NS : List Nat} (h : NR w g NS) (ho : Ot S w w') (hs : ¬ S g) : NR w' g NS := fun j hj => by
  have h1 := h j hj
  have hlt := World.block_lt_of_cell? _ _ h1.1
  rw [ho.cell (p := ⟨g, 0 + j, none⟩) hlt hs, ho.frozen (p := ⟨g, 0 + j, none⟩) hlt hs]
  exact h1

/-- The names that the core holds: block g, of capacity cap. -/
structure Nst (w : World) (bc g cap : Nat) (NS : List Nat) : Prop where
  cell : w.cell? ⟨bc, 154, none⟩ = some (.slice (some ⟨g, 0, none⟩) NS.length cap)
  free : w.frozen? ⟨bc, 154, none⟩ = false
  row : NR w g NS
  room : NS.length ≤ cap
  big : cap ≤ 9223372036854775807
  ne : bc ≠ g

structure Asc (NS : List Nat) : Prop where
  low : ∀ x ∈ NS, x < 8
  asc : NS.Pairwise (· < ·)
  short : NS.length ≤ 8

theorem Nst.kept {S : Nat → Prop} {w w' : World} {bc g cap : Nat} {NS : List Nat} (h : Nst w bc g cap NS) (ho : Ot S w w') (h1 : ¬ S g) (h2 : ¬ S bc) : Nst w' bc g cap NS :=
  ⟨ho.cellv h.cell h2, (ho.frozen (p := ⟨bc, 154, none⟩) (World.block_lt_of_cell? _ _ h.cell) h2).trans h.free, h.row.kept ho h1, h.room, h.big, h.ne⟩

set_option maxHeartbeats 1000000 in
set_option maxRecDepth 100000 in
theorem names_any (n : Int) (q i bc bP bi ck c bn ba g cap : Nat) (O : List (Nat × Nat × Nat)) (l : List (Nat × Int × Nat)) (NS : List Nat) (w : World)
    (hq : q < NS.length) (hqi : NS[q] = i) (hA : Asc NS) (hO : ∀ e ∈ O, e.1 < 8) (hl : ∀ e ∈ l, e.1 < 65536) (hago : ∀ e ∈ l, -32768 ≤ e.2.1 ∧ e.2.1 ≤ 32767)
    (hP : w.heap[bP]? = some (mobj sk VO O ck)) (hk : lk i O = some bi) (hI : w.heap[bi]? = some (mobj pk (tv n) l c)) (hwf : WF l c)
    (hn : w.cell? ⟨bn, 0, none⟩ = some (.int .i64 n)) (ha : w.cell? ⟨ba, 0, none⟩ = some (.map (some bi))) (hne : bP ≠ bi)
    (hcP : w.cell? ⟨bc, 155, none⟩ = some (.map (some bP))) (hN : Nst w bc g cap NS) (hg : g ≠ bP) (hg2 : g ≠ bi) :
    Calls Yba.prog 9 #[.pointer (some ⟨bc, 0, none⟩), .string (nm i), .func (.func 10) #[] #[.pointer (some ⟨bn, 0, none⟩), .pointer (some ⟨ba, 0, none⟩)]] w fun e w' =>
      e = .returned (.tuple #[]) ∧ w'.heap[bi]? = some (mobj pk (tv n) (kp l) c) ∧ w'.heap[bP]? = some (mobj sk VO (if kp l = [] then del i O else O) ck) ∧
        w'.cell? ⟨bc, 155, none⟩ = some (.map (some bP)) ∧ Nst w' bc g cap (if kp l = [] then NS.eraseIdx q else NS) ∧ Ot (fun k => k = bi ∨ k = bP ∨ k = bc ∨ k = g) w w' := by
  have hi : i < 8 := by rw [← hqi]; exact hA.low _ (List.getElem_mem hq)
  have hd := drop_any n i bP bi ck c bn ba O l w hi hO hl hago hP hk hI hwf hn ha hne
  have hcb : bc ≠ bi := ne_of_cell hcP hI
  have hcp : bc ≠ bP := ne_of_cell hcP hP
  have hq8 : q < 8 := by have := hA.short; omega
  have HD := hide hd
  have HN := hide (And.intro hN (And.intro hcP hA))
  clear hd hN hl hago hP hI hwf hn ha hO hk hA
  by_cases hkp : kp l = []
  · simp only [hkp, List.isEmpty_nil, if_true] at HD ⊢
    go_enter Yba.func9, Yba.ntmps9
    go_wp2_with (first
      | (go_at_call 11; refine HD.out.mono ?_; rintro e w1 ⟨rfl, m1, m2, o1⟩
         have n1 := HN.out.1.kept o1 (by rintro (h | h) <;> omega) (by rintro (h | h) <;> omega)
         have p1 := o1.cellv HN.out.2.1 (by rintro (h | h) <;> simp at h <;> omega)
         have hcell := n1.cell
         have hcs := search_any g cap q NS w1 hq HN.out.2.2.low HN.out.2.2.asc HN.out.2.2.short n1.row
         rw [hqi] at hcs
         have H1 := hide (And.intro m1 (And.intro m2 (And.intro o1 (And.intro n1 p1))))
         have HS := hide hcs
         clear m1 m2 o1 n1 p1 hcs)
      | (go_at_call 12; refine HS.out.mono ?_; rintro e w2 ⟨rfl, dk, rfl⟩)
      | (go_at_call 13; refine (delete_any g cap q NS _ hq HN.out.1.room HN.out.1.big (H1.out.2.2.2.1.row.kept ((Ot.refl (fun _ => False) _).drewN dk) (fun h => h))).mono ?_; rintro e w3 ⟨rfl, r3, o3⟩
         have hf3 : w3.frozen? ⟨bc, 154, none⟩ = false := (o3.frozen (p := ⟨bc, 154, none⟩) (World.block_lt_of_cell? _ _ hcell) HN.out.1.ne).trans H1.out.2.2.2.1.free
         have hc3 : w3.cell? ⟨bc, 154, none⟩ = some (.slice (some ⟨g, 0, none⟩) NS.length cap) := o3.cellv hcell HN.out.1.ne
         have H3 := hide (And.intro r3 o3)
         clear r3 o3)
      | fail)
    go_end0
    have o13 : Ot (fun k => k = g) w1 w3 := ((Ot.refl _ w1).drewN dk).trans H3.out.2
    have o1s : Ot (fun k => k = g ∨ k = bc) w1 (w3.setCell ⟨bc, 154, none⟩ (.slice (some ⟨g, 0, none⟩) (NS.eraseIdx q).length cap)) := (o13.mono (fun _ h _ => .inl h)).setCell (fun _ => .inr rfl) _
    have o3s : Ot (fun k => k = bc) w3 (w3.setCell ⟨bc, 154, none⟩ (.slice (some ⟨g, 0, none⟩) (NS.eraseIdx q).length cap)) := (Ot.refl (fun k => k = bc) _).setCell (fun _ => rfl) _
    have hgb := HN.out.1.ne
    have hc5 : w3.cell? ⟨bc, 155, none⟩ = some (.map (some bP)) := o13.cellv H1.out.2.2.2.2 hgb
    refine ⟨rfl, o1s.obj H1.out.1 (by rintro (h | h) <;> omega), o1s.obj H1.out.2.1 (by rintro (h | h) <;> omega), ?_, ⟨?_, ?_, ?_, ?_, HN.out.1.big, hgb⟩, ?_⟩
    · rw [World.cell?_setCell_other _ _ _ _ (by simp)]
      exact hc5
    · exact World.cell?_setCell_same _ _ _ hc3
    · rw [World.frozen?_setCell]
      exact hf3
    · exact H3.out.1.kept o3s (Ne.symm hgb)
    · have := HN.out.1.room
      rw [List.length_eraseIdx]
      split <;> omega
    · exact (H1.out.2.2.1.mono (fun _ h _ => by rcases h with h | h <;> simp [h])).trans (o1s.mono (fun _ h _ => by rcases h with h | h <;> simp [h]))
  · have hke : (kp l).isEmpty = false := by cases hk : kp l with | nil => exact (hkp hk).elim | cons _ _ => rfl
    simp only [hke, if_neg hkp] at HD ⊢
    go_enter Yba.func9, Yba.ntmps9
    go_wp2_with (first
      | (go_at_call 11; refine HD.out.mono ?_; rintro e w1 ⟨rfl, m1, m2, o1⟩
         have n1 := HN.out.1.kept o1 (by rintro (h | h) <;> omega) (by rintro (h | h) <;> omega)
         have p1 := o1.cellv HN.out.2.1 (by rintro (h | h) <;> simp at h <;> omega)
         have H1 := hide (And.intro m1 (And.intro m2 (And.intro o1 (And.intro n1 p1))))
         clear m1 m2 o1 n1 p1)
      | fail)
    refine bodyPost_ret (results_none rfl _ _ _) rfl ?_
    exact ⟨rfl, H1.out.1, H1.out.2.1, H1.out.2.2.2.2, H1.out.2.2.2.1, H1.out.2.2.1.mono (fun _ h _ => by rcases h with h | h <;> simp [h])⟩

end Go.Proofs.Ybulkdjcm
