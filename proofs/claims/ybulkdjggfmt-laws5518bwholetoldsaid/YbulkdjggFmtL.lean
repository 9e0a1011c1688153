/-
  THE LAW (func 3).
-/
import Derived.Test.YbulkdjggFmtLb
import Derived.Test.YbulkdjggFmtLm
import Derived.Test.YbulkdjggFmtLd
import Derived.Test.YbulkdjggFmtLk
import Derived.Test.YbulkdjggFmtLt
namespace Go.Proofs.YbulkdjggFmt
open Go.RowKit Go.Sort Go.ChangeMaps

set_option maxHeartbeats 4000000 in
set_option maxRecDepth 100000 in
theorem law_any (a0 a1 sel P pc K kc : Nat) (pa ka : Option Addr) (X : List (List Nat)) (ks : List ByteArray) (w : World) (hX : PlIn w pa X) (hP : X.length = P) (hP64 : P ≤ 9223372036854775807) (hXl : ∀ i, (X.getD i []).length ≤ 140737488355328)
    (hk : Strs w ka ks) (hK : ks.length = K) (hK64 : K ≤ 9223372036854775807) (hks : ∀ s ∈ ks, s.size ≤ 9223372036854775807) (h0 : a0 < 256) (h1 : a1 < 256) (h3 : sel < 256) :
    Calls Ybaf.prog 3 #[.int .u8 a0, .int .u8 a1, .slice pa P pc, .int .u8 sel, .slice ka K kc] w fun e w' => e = .returned (.bool true) ∧ Below w.heap.size w w' := by
  have HA := hide (And.intro hX (And.intro hP (And.intro hXl (And.intro hk (And.intro hK hks)))))
  clear hX hP hXl hk hK hks
  by_cases hbig : 2048 < K
  · have hbigi : (2048 : Int) < K := by omega
    go_enter Ybaf.func3, Ybaf.ntmps3
    go_wp2_with fail
    go_ret
    exact ⟨rfl, Below.refl _ _⟩
  · have hbigi : ¬ (2048 : Int) < K := by omega
    obtain ⟨n, hn⟩ : ∃ n, n = 1 + a0 % 4 := ⟨_, rfl⟩
    obtain ⟨pn, hpn⟩ : ∃ pn, pn = 1 + a1 % 8 := ⟨_, rfl⟩
    have hni : (1 : Int) + (a0 : Int) % 4 = n := by omega
    have hpni : (1 : Int) + (a1 : Int) % 8 = pn := by omega
    have hn1 : 1 ≤ n := by omega
    have hn4 : n ≤ 4 := by omega
    have hp1 : 1 ≤ pn := by omega
    have hp8 : pn ≤ 8 := by omega
    clear hn hpn
    go_enter Ybaf.func3, Ybaf.ntmps3
    go_upto_block 0 with (fail)
    obtain ⟨W1, hW1⟩ : ∃ W1, W1 = w.alloc (.cells #[.string ⟨#[97]⟩, .string ⟨#[98]⟩, .string ⟨#[99]⟩, .string ⟨#[100]⟩] 24) := ⟨_, rfl⟩
    obtain ⟨bn, hbn⟩ : ∃ bn, bn = w.heap.size := ⟨_, rfl⟩
    have hB1 : Below w.heap.size w W1 := by rw [hW1]; exact below_alloc _ _
    have hbx1 : ∀ i, i < 4 → W1.cell? ⟨bn, i, none⟩ = some (.string (nm i)) := fun i hi => by
      rw [hW1, hbn]
      have : i = 0 ∨ i = 1 ∨ i = 2 ∨ i = 3 := by omega
      rcases this with rfl | rfl | rfl | rfl <;> simp [nm]
    have hs1 : W1.heap.size = bn + 1 := by rw [hW1, hbn]; simp
    rw [← hW1]
    have HB := hide (And.intro hB1 (And.intro hbx1 (And.intro hs1 hbn)))
    rw [← hbn] at ⊢
    clear hW1 hB1 hbx1 hs1 hbn
    go_cut [14, 15] (fun v14 v15 wc => ∃ tot : Nat, v14 = .int .i64 tot ∧ (∀ i, i < n → (X.getD i []).length ≤ tot) ∧ tot ≤ 562949953421312 ∧ wc = W1)
    case first =>
      refine st1 W1 _ (HA.out.1.below HB.out.1) HA.out.2.1 hn4 hP64 HA.out.2.2.1 ?_
      intros
      rename_i wz h
      dsimp only
      go_wp2_with fail
      go_meet
      exact h
    case rest =>
      obtain ⟨tot, rfl, htot, htl, rfl⟩ := hcut
      by_cases ht : 4096 < tot
      · have hti : (4096 : Int) < tot := by omega
        go_wp2_with fail
        go_ret
        exact ⟨rfl, HB.out.1⟩
      · have hti : ¬ (4096 : Int) < tot := by omega
        rename World => W1
        have hX4 : ∀ i, i < n → (X.getD i []).length ≤ 4096 := fun i hi => Nat.le_trans (htot i hi) (by omega)
        have HX4 := hide hX4
        clear htot hX4
        obtain ⟨Z, hZs, hZ, hmk⟩ := make23 n (by omega)
        have hmk1 := hmk W1
        have hmm : ∀ W : World, (Instr.makeMap 27 none).run Ybaf.prog W = .ok (.map (some W.heap.size)) (W.alloc (.map #[] 0)) := fun _ => rfl
        go_upto_block 2 with (fail)
        obtain ⟨hB1, hbx1, hs1, hbn⟩ := HB.out
        obtain ⟨W2, hW2⟩ : ∃ W2, W2 = (W1.alloc (.cells Z 9)).alloc (.map #[] 0) := ⟨_, rfl⟩
        obtain ⟨nb0, hnb0⟩ : ∃ nb0, nb0 = W1.heap.size := ⟨_, rfl⟩
        obtain ⟨pm, hpm⟩ : ∃ pm, pm = W1.heap.size + 1 := ⟨_, rfl⟩
        have hL2 : L2 w bn nb0 pm n (fun i => (X.getD i []).map mulc) 0 [] 0 W2 := by
          have ha := Ot.of_below (fun _ => False) (below_alloc W1 (.cells Z 9))
          have hb := Ot.of_below (fun _ => False) (below_alloc (W1.alloc (.cells Z 9)) (.map #[] 0))
          rw [hW2, hnb0, hpm]
          refine ⟨fun i hi => hb.cellv (ha.cellv (hbx1 i hi) (fun h => h)) (fun h => h), fun i hi => by omega, fun i hi => ?_, ?_, by simp, fun i hi => by omega, (hB1.trans (ha.below hB1.size (fun _ h => h.elim))).trans (hb.below (Nat.le_trans hB1.size ha.size) (fun _ h => h.elim))⟩
          · have h1 : (W1.alloc (.cells Z 9)).cell? ⟨W1.heap.size, i, none⟩ = some (.string ⟨#[]⟩) := by rw [World.cell?_alloc_at _ _ _ _ rfl]; exact hZ i hi
            exact ⟨by rw [hb.cellv h1 (fun h => h)]; rfl, (hb.frozen (p := ⟨W1.heap.size, i, none⟩) (by simp) (fun h => h)).trans (World.frozen?_alloc_at _ _ _ _ rfl)⟩
          · have := heap_alloc_new (W1.alloc (.cells Z 9)) (.map #[] 0)
            rw [show (W1.alloc (.cells Z 9)).heap.size = W1.heap.size + 1 by simp] at this
            exact this
        have hd1 : w.heap.size ≤ bn := by omega
        have hd2 : bn < nb0 := by omega
        have hd3 : nb0 < pm := by omega
        rw [← hW2, ← hpm, ← hnb0]
        have HL2 := hide hL2
        clear hL2 hW2 hnb0 hpm hB1 hbx1 hs1 hbn hmk1 hmk hZ HB
        go_cut [18] (fun v18 wc => ∃ l c, L2 w bn nb0 pm n (fun i => (X.getD i []).map mulc) n l c wc)
        case first =>
          refine st2 w W2 _ HA.out.1 HA.out.2.1 hn4 hP64 HX4.out hd1 hd2 hd3 HL2.out ?_
          intros
          rename_i wz h
          dsimp only
          go_wp2_with fail
          go_meet
          exact h
        case rest =>
          obtain ⟨l, c, hL⟩ := hcut
          obtain ⟨px, hpx⟩ : ∃ px : Nat → List Nat, px = fun i => if i < n then (X.getD i []).map mulc else [] := ⟨_, rfl⟩
          have hpx4 : ∀ i, (px i).length ≤ 4096 := fun i => by
            rw [hpx]
            dsimp only
            split
            · rename_i hi
              rw [List.length_map]; exact HX4.out i hi
            · exact Nat.zero_le _
          have hpxv : ∀ i j, (px i).getD j 0 < 18446744073709551616 := fun i j => by
            refine getD_lt (by omega) (fun x hx => ?_) j
            rw [hpx] at hx
            dsimp only at hx
            split at hx
            · obtain ⟨y, _, rfl⟩ := List.mem_map.1 hx
              exact mulc_lt y
            · simp at hx
          have hpl : Pl wc n l px := fun i hi => by
            have hpi : px i = (X.getD i []).map mulc := by rw [hpx]; exact if_pos hi
            rw [hpi]
            rcases hL.pl i hi with k | ⟨g, cap, k1, k2, k3, _⟩
            · exact .inl k
            · exact .inr ⟨g, cap, k1, k2, k3⟩
          have hc4 := placed_at nb0 n n pn pm l c px wc hL.nd hn1 hn4 hp1 hp8 hL.mp (fun e he => by have := hL.ky e he; omega) hpl hpx4 hpxv
          have hbx := hL.bx
          have hbnl := World.block_lt_of_cell? _ _ (hbx 0 (by omega))
          dsimp only at hbnl
          have HL := hide (And.intro hL.b (And.intro hpx4 hbx))
          have HC4 := hide hc4
          clear hc4 hL hpx hpxv hpl hpx4 hbx HL2 HX4
          obtain ⟨W3, hW3⟩ : ∃ W3, W3 = wc := ⟨_, rfl⟩
          subst hW3
          obtain ⟨sl, hsl⟩ : ∃ sl, sl = sel % (n + 1) := ⟨_, rfl⟩
          have hsli : (sel : Int) % ((n : Int) + 1) = sl := by rw [hsl]; simp
          have HSL := hide hsli
          clear hsl hsli
          go_upto_if 149 with (go_at_call 4; refine HC4.out.mono ?_; rintro e w4 ⟨R, nb, cn, ob, ov, pb, cp, pts, rfl, hEr, hPts, hp0, hp2, hok, hso, hB4⟩)
          rw [HSL.out]
          obtain ⟨hb3, hpx4, hbx⟩ := HL.out
          have hbx4 : ∀ i, i < 4 → w4.cell? ⟨bn, i, none⟩ = some (.string (nm i)) := fun i hi => (hB4.cell (World.block_lt_of_cell? _ _ (hbx i hi))).trans (hbx i hi)
          have hb4 : Below w.heap.size w w4 := below_next hb3 hB4
          have H4 := hide (And.intro hEr (And.intro hPts (And.intro hok (And.intro hso (And.intro hb4 hbx4)))))
          have HPX := hide hpx4
          clear hEr hPts hok hso hB4 hbx4 hb4 HL hb3 hpx4 hbx HC4
          go_cut [24] (fun v24 wd => (∃ u, v24 = .string u) ∧ wd = w4)
          case first =>
            by_cases hs : sl < n
            · have hsi : (sl : Int) < n := by omega
              have hsi4 : (sl : Int) < 4 := by omega
              have hcs := H4.out.2.2.2.2.2 sl (by omega)
              go_wp2_with fail
              go_meet
              case rel => exact ⟨⟨_, rfl⟩, rfl⟩
            · have hsi : ¬ (sl : Int) < n := by omega
              go_wp2_with fail
              go_meet
              case rel => exact ⟨⟨_, rfl⟩, rfl⟩
          case rest =>
            obtain ⟨⟨u, rfl⟩, rfl⟩ := hcut
            rename World => w4
            obtain ⟨hEr, hPts, hok, hso, hb4, _⟩ := H4.out
            obtain ⟨N, hN'⟩ : ∃ N, N = pts.size := ⟨_, rfl⟩
            -- the nodes
            obtain ⟨Z5, hZ5s, hZ5, hmk5⟩ := make23 n (by omega)
            have hmk5' := hmk5 w4
            obtain ⟨nb2, hnb2⟩ : ∃ b, b = w4.heap.size := ⟨_, rfl⟩
            have hf5 := fresh_copy (W := w4) (b := nb2) (e := 9) (Z := Z5) (cs := (List.range n).map fun i => Value.string (nm i)) hnb2 (by simp [hZ5s])
            have hb5 := below_alloc w4 (.cells Z5 9)
            have hcp5 := fun ty => copy_names (W := w4.alloc (.cells Z5 9)) (nb := nb) (n := n) (cn := cn) (b2 := nb2) (fun i hi => (hb5.cell (World.block_lt_of_cell? _ _ (hEr.ns i hi))).trans (hEr.ns i hi)) (fun j hj => hf5.1 j (by simpa using hj)) hf5.2.1 ty
            have c05 := (hb5.cell (World.block_lt_of_cell? _ _ hEr.c0)).trans hEr.c0
            have c04 := hEr.c0
            obtain ⟨W6, hW6⟩ : ∃ W6, W6 = (w4.alloc (.cells Z5 9)).setCells nb2 0 ((List.range n).map fun i => Value.string (nm i)) := ⟨_, rfl⟩
            rw [← hW6] at hf5 hcp5
            have HF5 := hide (And.intro (names_got hf5.2.2.1) hf5.2.2.2.2)
            rw [hnb2] at hcp5
            clear hmk5 hf5 hb5 hEr hPts hok hso hb4 hW6 hZ5
            go_upto_region 35 with (fail)
            rw [← hnb2]
            clear hcp5 hmk5' c05 c04 hnb2
            -- the points
            obtain ⟨hn2, hb46⟩ := HF5.out
            obtain ⟨hEr, hPts, hok, hso, hb4, _⟩ := H4.out
            have hPts6 := hPts.below hb46
            obtain ⟨Z7, hZ7s, hmk7⟩ := make34 N N (by omega) (Nat.le_refl _)
            have hmk7' := hmk7 W6
            obtain ⟨pb2, hpb2⟩ : ∃ b, b = W6.heap.size := ⟨_, rfl⟩
            have hf7 := fresh_copy (W := W6) (b := pb2) (e := 41) (Z := Z7) (cs := (flatK enc 2 pts).toList) hpb2 (by simp [hZ7s, hN'])
            have hb7 := below_alloc W6 (.cells Z7 41)
            have hPts7 := hPts6.below hb7
            have hcp7 := fun ty => copy_points (W := W6.alloc (.cells Z7 41)) (pb := pb) (cp := cp) (b2 := pb2) (pts := pts) hPts7.row (fun j hj => hf7.1 j (by simpa using hj)) hf7.2.1 ty
            have c36 := hPts6.c3
            have c37 := hPts7.c3
            obtain ⟨W8, hW8⟩ : ∃ W8, W8 = (W6.alloc (.cells Z7 41)).setCells pb2 0 (flatK enc 2 pts).toList := ⟨_, rfl⟩
            rw [← hW8] at hf7 hcp7
            rw [← hN'] at hcp7 c36 c37
            have HF7 := hide (And.intro (points_held hf7.2.2.1 hf7.2.2.2.1) hf7.2.2.2.2)
            rw [hpb2] at hcp7
            have HN := hide hN'
            clear hmk7 hf7 hb7 hEr hPts hok hso hb4 hW8 hPts6 hPts7 hn2 hb46 hN'
            go_upto_region 37 with (fail)
            rw [← hpb2]
            clear hcp7 hmk7' c36 c37 hpb2
            -- the positions given
            obtain ⟨hp2', hb68⟩ := HF7.out
            obtain ⟨hn2, hb46⟩ := HF5.out
            have hb48 := below_next hb46 hb68
            have hEr8 := H4.out.1.ot (Ot.of_below (fun _ => False) hb48) (fun h => h) (fun h => h) (fun h => h) (fun _ _ _ _ h => h)
            obtain ⟨Z9, hZ9s, hZ9, hmk9⟩ := make22 n (by omega)
            have hmk9' := hmk9 W8
            obtain ⟨ob2, hob2⟩ : ∃ b, b = W8.heap.size := ⟨_, rfl⟩
            have hb9 := below_alloc W8 (.cells Z9 25)
            have hEr9 := hEr8.ot (Ot.of_below (fun _ => False) hb9) (fun h => h) (fun h => h) (fun h => h) (fun _ _ _ _ h => h)
            have c28 := hEr8.c2
            have hz9 : ∀ j, j < n → (W8.alloc (.cells Z9 25)).cell? ⟨ob2, j, none⟩ = some (.slice none 0 0) ∧ (W8.alloc (.cells Z9 25)).frozen? ⟨ob2, j, none⟩ = false := fun j hj => ⟨by rw [World.cell?_alloc_at _ _ _ _ hob2]; exact hZ9 j hj, World.frozen?_alloc_at _ _ _ _ hob2⟩
            have hd1 : R ≠ ob2 := by have := World.block_lt_of_cell? _ _ hEr8.c2; dsimp only at this; omega
            have hd2 : ob ≠ ob2 := by have := World.block_lt_of_cell? _ _ (hEr8.os 0 (by omega)); dsimp only at this; omega
            have hd3 : ∀ j, j < n → ∀ g, (ov j).ownBlock = some g → g ≠ ob2 := fun j hj g hg => by
              rcases hEr8.rd j hj with ⟨k, _⟩ | ⟨g', cap, k, k3, k4⟩
              · rw [k] at hg; simp [Value.ownBlock] at hg
              · rw [k] at hg
                have h1 : g = g' := by simpa [Value.ownBlock] using hg.symm
                have := World.block_lt_of_cell? _ _ (k4 0 k3)
                dsimp only at this
                omega
            obtain ⟨W9, hW9⟩ : ∃ W9, W9 = W8.alloc (.cells Z9 25) := ⟨_, rfl⟩
            have HF9 := hide (And.intro hEr9 (And.intro hz9 (And.intro hd3 (And.intro hb9 hob2))))
            clear hmk9 hb9 hEr9 hEr8 hz9 hd3 hp2' hb68 hn2 hb46 hb48 hZ9
            go_upto_block 6 with (fail)
            rw [← hW9, ← hob2]
            rw [← hW9] at HF9
            clear hW9 hmk9' c28 hob2
            go_cut [28] (fun v28 wc => ∃ ow : Nat → Value, (∀ j, j < n → wc.cell? ⟨ob2, j, none⟩ = some (ow j)) ∧ (∀ j, j < n → Rd wc (ow j) (px j)) ∧ Ot (fun k => k = ob2) W9 wc)
            case first =>
              obtain ⟨hEr9, hz9, hd3, _, _⟩ := HF9.out
              refine st4 W9 _ hn4 hEr9.c2 hEr9.os hEr9.rd hz9 HPX.out hd1 hd2 hd3 ?_
              clear hEr9 hz9 hd3
              intros
              rename_i wz h
              dsimp only
              go_wp2_with fail
              go_meet
              exact h
            case rest =>
              rename_i ha
              obtain ⟨ow, how, hrw, hot⟩ := hcut
              obtain ⟨hEr, hPts, hok, hso, hb4, _⟩ := H4.out
              obtain ⟨hn2, hb46⟩ := HF5.out
              obtain ⟨hp2', hb68⟩ := HF7.out
              obtain ⟨_, _, _, hb9, hob2⟩ := HF9.out
              have hb8c : Below W8.heap.size W8 wc := hb9.trans (hot.below hb9.size (fun k hk => by omega))
              have hb6c := below_next hb68 hb8c
              have hb4c := below_next hb46 hb6c
              have ho4 := Ot.of_below (fun _ => False) hb4c
              have hTl : Tl R nb ob n cn pn ov ow px pb cp nb2 pb2 ob2 pts ka ks wc :=
                ⟨hEr.ot ho4 (fun h => h) (fun h => h) (fun h => h) (fun _ _ _ _ h => h), hPts.below hb4c, fun i hi => (hb6c.cell (World.block_lt_of_cell? _ _ (hn2 i hi))).trans (hn2 i hi), holds_ot hp2' (Ot.of_below (fun _ => False) hb8c) (fun h => h), how, hrw, HA.out.2.2.2.1.below (below_next hb4 hb4c)⟩
              refine ha _ _ ?_
              exact law_tail w wc hTl HN.out HA.out.2.2.2.2.1 (by omega) HA.out.2.2.2.2.2 hn4 (by rw [HN.out]; exact hp0) (by rw [HN.out]; exact hp2) hok hso HPX.out (below_next hb4 hb4c)

end Go.Proofs.YbulkdjggFmt
