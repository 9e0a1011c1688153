/-
  (*Ring).Split (7).
-/
import Derived.Test.YbulkdjggFmtV
import Derived.Test.YbulkdjggFmtP
import Derived.Deep.CutBlock
import Derived.Deep.DeepCutAuto
namespace Go.Proofs.YbulkdjggFmt
open Go.RowKit Go.Sort Go.ChangeMaps

/-- A slice of strings, as a call's argument holds it. -/
def Strs (W : World) (ao : Option Addr) (ks : List ByteArray) : Prop := 0 < ks.length → ∃ b off, ao = some ⟨b, off, none⟩ ∧ ∀ j, j < ks.length → W.cell? ⟨b, off + j, none⟩ = some (.string (ks.getD j ⟨#[]⟩))

/-- The ring, as Split reads it. -/
structure Rg (R pb cp nb n cn : Nat) (pts : Array Pt) (W : World) : Prop where
  pts : Pts R pb cp pts W
  c0 : W.cell? ⟨R, 0, none⟩ = some (.slice (some ⟨nb, 0, none⟩) n cn)
  ns : ∀ i, i < n → W.cell? ⟨nb, i, none⟩ = some (.string (nm i))

theorem Rg.below {R pb cp nb n cn : Nat} {pts : Array Pt} {w W : World} (h : Rg R pb cp nb n cn pts w) (hb : Below w.heap.size w W) : Rg R pb cp nb n cn pts W :=
  ⟨h.pts.below hb, (hb.cell (World.block_lt_of_cell? _ _ h.c0)).trans h.c0, fun i hi => (hb.cell (World.block_lt_of_cell? _ _ (h.ns i hi))).trans (h.ns i hi)⟩

set_option maxHeartbeats 40000000 in
set_option maxRecDepth 100000 in
theorem split_at (R pb cp nb n cn ck : Nat) (ka : Option Addr) (pts : Array Pt) (ks : List ByteArray) (u : ByteArray) (isU : Nat → Bool) (w : World) (hr : Rg R pb cp nb n cn pts w) (hk : Strs w ka ks)
    (hks : ∀ s ∈ ks, s.size ≤ 9223372036854775807) (hU : ∀ i, i < n → ((nm i).toList == u.toList) = isU i) (hp0 : 0 < pts.size) (hp : pts.size ≤ 100000) (hl : ks.length ≤ 100000) (hq : ∀ t, t < pts.size → pts[t]!.2 < n)
    (hso : ∀ i j, i < j → j < pts.size → pts[i]!.1 ≤ pts[j]!.1) :
    Calls Ybaf.prog 7 #[.pointer (some ⟨R, 0, none⟩), .string u, .slice ka ks.length ck] w fun e w' =>
      ∃ v, e = .returned v ∧ Own w' w.heap.size v (srt (stps (skipP isU pts) (offS pts (ks.map hN)) (arc pts) (lastP pts) pts.size 0 ([], false)).1) ∧ (v = nilS ↔ (stps (skipP isU pts) (offS pts (ks.map hN)) (arc pts) (lastP pts) pts.size 0 ([], false)).1 = []) ∧ Below w.heap.size w w' := by
  obtain ⟨ST, hST⟩ : ∃ s, s = stps (skipP isU pts) (offS pts (ks.map hN)) (arc pts) (lastP pts) pts.size 0 ([], false) := ⟨_, rfl⟩
  rw [← hST]
  obtain ⟨N, hN'⟩ : ∃ N, N = pts.size := ⟨_, rfl⟩
  obtain ⟨H, hH⟩ : ∃ H, H = ks.length := ⟨_, rfl⟩
  rw [← hN'] at hp hST hp0
  rw [← hH] at hl ⊢
  obtain ⟨i0, hi, hz0, hz1, hz2⟩ := info_parts Ybaf.info28
  have HR := hide (And.intro hr (And.intro hk (And.intro hks (And.intro hU (And.intro hq hso)))))
  have HST := hide hST
  have HN := hide hN'
  have HH := hide hH
  have c3 := hr.pts.c3
  have c0 := hr.c0
  rw [← hN'] at c3
  clear hr hk hks hU hq hso hST hN' hH
  have hmk : (Instr.makeMap 48 none).run Ybaf.prog w = .ok (.map (some w.heap.size)) (w.alloc (.map #[] 0)) := rfl
  go_enter Ybaf.func7, Ybaf.ntmps7
  go_wp2_with fail
  go_loopg [25] H (fun kx v25 wr => ∃ (t : Nat) (rows : Nat → Value), v25 = .int .i64 t ∧ t ≤ H ∧ H - t ≤ kx ∧ Rw w.heap.size w.heap.size rows (offL pts ((ks.map hN).take t)) wr ∧ Below w.heap.size w wr)
  case atStart =>
    refine ⟨0, fun _ => nilS, rfl, Nat.zero_le _, Nat.le_refl _, ?_, below_alloc _ _⟩
    have hm : IsMap (w.alloc (.map #[] 0)) w.heap.size ([], 0) := ⟨heap_alloc_new w _, by simp⟩
    refine ⟨⟨_, hm⟩, fun i => by unfold fv; rw [mp_of hm]; rfl, fun i => by simpa [offL] using Own.nil _ _, fun i j g h => by simp [Value.ownBlock] at h, fun i h => by simp [Value.ownBlock] at h⟩
  case round =>
    obtain ⟨t, rows, rfl, htH, htk, hrw, hB⟩ := hrel
    by_cases hlt : t < H
    · have hlti : (t : Int) < H := by omega
      have hpos : 0 < ks.length := by rw [← HH.out]; omega
      have htl : t < ks.length := by rw [← HH.out]; exact hlt
      obtain ⟨s, hs⟩ : ∃ s, s = ks.getD t ⟨#[]⟩ := ⟨_, rfl⟩
      have hs63 : s.size ≤ 9223372036854775807 := HR.out.2.2.1 s (by rw [hs, List.getD_eq_getElem?_getD, List.getElem?_eq_getElem htl]; exact List.getElem_mem htl)
      obtain ⟨kb, ko, rfl, hkc⟩ := HR.out.2.1 hpos
      have hk1 := hkc t htl
      have hkb := World.block_lt_of_cell? _ _ hk1
      have hk2 := (hB.cell hkb).trans hk1
      rw [← hs] at hk2
      have hRg := HR.out.1.below hB
      obtain ⟨h, hh⟩ : ∃ h, h = hN s := ⟨_, rfl⟩
      have hc13 := hash_at s hs63 wr
      rw [← hh] at hc13
      have hc14 := find_at R pb cp h pts (by rw [← HN.out]; omega) HR.out.2.2.2.2.2 wr hRg.pts
      obtain ⟨i, hi'⟩ : ∃ i, i = fnd pts h := ⟨_, rfl⟩
      rw [← hi'] at hc14
      have hiN : i < N := by
        rw [hi', HN.out]
        exact fnd_lt pts h (by rw [← HN.out]; exact hp0) (firstGe_le pts h)
      have HI := hide (And.intro hi' (And.intro hh hs))
      clear hi' hh hs hkc hk1 hkb hRg
      have hrw0 := hide hrw
      clear hrw
      go_upto_block 1 with (fail)
      go_cut [] from 26 to 47 (fun wc => ∃ rows', Rw w.heap.size w.heap.size rows' (offL pts ((ks.map hN).take (t + 1))) wc ∧ Below w.heap.size w wc)
      case first =>
        go_upto_region 7 with (first | (go_at_call 13; refine hc13.mono ?_; rintro e w1 ⟨rfl, rfl⟩) | (go_at_call 14; refine hc14.mono ?_; rintro e w2 ⟨rfl, hB2⟩))
        have hB3 : Below w.heap.size w w2 := below_next hB hB2
        have hrw := hrw0.out.below hB2
        have hRg := HR.out.1.below hB3
        obtain ⟨r0, hr0⟩ : ∃ r, r = rows i := ⟨_, rfl⟩
        obtain ⟨a, ha⟩ : ∃ a, a = arc pts i := ⟨_, rfl⟩
        have hiK : i < 9223372036854775808 := by omega
        have hg0 : ∀ g, r0.ownBlock = some g → w.heap.size ≤ g := fun g hg => by rw [hr0] at hg; exact ((hrw.own i).lt g hg).1
        have hgm : r0.ownBlock ≠ some w.heap.size := by rw [hr0]; exact hrw.mine i
        have hRl := World.block_lt_of_cell? _ _ HR.out.1.c0
        have hpl : pb < w.heap.size := World.block_lt_of_cell? _ _ (HR.out.1.pts.pos (t := 0) (by rw [← HN.out]; exact hp0))
        have HS : Hid (∀ W', Zz w.heap.size (fun k => r0.ownBlock = some k ∨ k = w.heap.size) w2 W' → (Instr.lookup 48 (.map (some w.heap.size)) (.int .i64 i) false).run Ybaf.prog W' = .ok (fv W' w.heap.size i) W' ∧
            (∀ X, (Instr.mapUpdate 48 (.map (some w.heap.size)) (.int .i64 i) X).run Ybaf.prog W' = .ok () (up W' w.heap.size i X)) ∧ Zz w.heap.size (fun k => r0.ownBlock = some k ∨ k = w.heap.size) w2 W') :=
          hide (fun W' hz => ⟨lookup_run hz.map hiK, update_run hz.map hiK, hz⟩)
        have HARC : Hid (∀ W', Zz w.heap.size (fun k => r0.ownBlock = some k ∨ k = w.heap.size) w2 W' → Calls Ybaf.prog 15 #[.pointer (some ⟨R, 0, none⟩), .int .i64 i] W' fun e w' => e = .returned (.int .u64 a) ∧ ∃ q, w' = W'.drewN q) := hide (fun W' hz => by
          rw [ha]
          refine arc_at R pb cp i pts (by rw [← HN.out]; omega) (by rw [← HN.out]; exact hiN) W' (hRg.pts.ot hz.ot ?_ ?_)
          · rintro (h | h)
            · have := hg0 _ h; dsimp only at hRl; omega
            · dsimp only at hRl; omega
          · rintro (h | h)
            · have := hg0 _ h; omega
            · omega)
        have hz : Zz w.heap.size (fun k => r0.ownBlock = some k ∨ k = w.heap.size) w2 w2 := ⟨hrw.map, Ot.refl _ _⟩
        have hml : w.heap.size < w2.heap.size := by obtain ⟨p, hp⟩ := hrw.map; exact lt_of_block hp.1
        have hf1 : fv w2.drew w.heap.size i = r0 := by rw [hr0, ← hrw.val i]; exact fv_of rfl hrw.map
        have hf2 : ∀ q, fv (w2.drewN q) w.heap.size i = r0 := fun q => by rw [hr0, ← hrw.val i]; exact fv_of rfl hrw.map
        have hf3 : ∀ q o, fv ((w2.drewN q).alloc o) w.heap.size i = r0 := fun q o => by rw [hr0, ← hrw.val i]; exact fv_of ((below_alloc (w2.drewN q) o).block _ hml) hrw.map
        have hown : ∀ q o, ((w2.drewN q).alloc o).ownsRow w.heap.size 28 1 r0 (offL pts ((ks.map hN).take t) i).length (u64s (offL pts ((ks.map hN).take t) i)) := fun q o => by
          rw [hr0]
          exact Own.ot (w' := (w2.drewN q).alloc o) (hrw.own i) (((Ot.refl (fun _ => False) w2).drewN q).alloc o) (fun _ _ h => h)
        obtain ⟨d, hd⟩ : ∃ d, d = sub64 (sub64 h a) 1 := ⟨_, rfl⟩
        have e1 := sub64_int h a
        have e2 : IntKind.u64.wrap ((sub64 h a : Nat) - 1) = (sub64 (sub64 h a) 1 : Nat) := sub64_int (sub64 h a) 1
        rw [← hd] at e2
        have HD := hide hd
        clear hd
        generalize sub64 h a = d1 at e1 e2
        have hLl : (offL pts ((ks.map hN).take t) i).length ≤ 100000 := by
          have := offL_len pts ((ks.map hN).take t) i
          rw [List.length_take, List.length_map, ← HH.out] at this
          omega
        have HRW := hide hrw
        have HRA := hide (And.intro hr0 (And.intro ha hB3))
        obtain ⟨Li, hLi⟩ : ∃ l, l = offL pts ((ks.map hN).take t) i := ⟨_, rfl⟩
        rw [← hLi] at hown hLl
        have HLI := hide hLi
        have hw0 : w.heap.size ≤ w2.heap.size := hB3.size
        clear hrw hRg hr0 ha hrw0 hB hB2 hk2 hB3 hc13 hc14 hLi
        go_region_held3 (fun W' => (Instr.lookup 48 (.map (some w.heap.size)) (.int .i64 i) false).run Ybaf.prog W' = .ok (fv W' w.heap.size i) W' ∧
            (∀ X, (Instr.mapUpdate 48 (.map (some w.heap.size)) (.int .i64 i) X).run Ybaf.prog W' = .ok () (up W' w.heap.size i X)) ∧ Zz w.heap.size (fun k => r0.ownBlock = some k ∨ k = w.heap.size) w2 W')
          ((refine unhide HS _ ?_
            go_split_ands
            first
              | assumption
              | (exact Zz.drew (by assumption))
              | (exact Zz.drewN (by assumption) _)
              | (exact Zz.alloc (by assumption) _)
              | (exact Zz.up (by assumption) hiK (Or.inr rfl) _)
              | (exact Zz.grown (by assumption) hgrow hgm (fun k hk => Or.inl hk))))
          (first
            | (go_at_call 15; refine (unhide HARC _ (by go_split_ands; assumption)).mono ?_; rintro e w' ⟨rfl, q, rfl⟩)
            | (refine step_append_lies _ (by rfl) _ _ _ (by rfl) w.heap.size 28 i0 _ 1 8 Ybaf.underlying25 hi hz0 hz1 hz2 rfl (by omega) r0 Li.length (u64s Li) (by rfl) (hown _ _)
                ⟨w2.heap.size, 0, none⟩ 1 1 [.int .u64 d] (by rfl) (by rfl) (World.news_of_block (cs := #[.int .u64 d]) (t := 28) (fr := (0, 0)) (heap_alloc_new (w2.drewN _) _)) (by simp [Value.oneCell'])
                (by omega) (by unfold maxLen; omega) (by omega) (by simp; omega) (w2.heap.size + 1) (by simp) ?_; intro g cap w3 hown3 hgrow hat hlt3))
        all_goals
          go_wp2_with fail
          go_meet
          case rel =>
            obtain ⟨hr0, ha, hB3⟩ := HRA.out
            obtain ⟨hi', hh, hs⟩ := HI.out
            have hO : Own w3 w.heap.size (.slice (some ⟨g, 0, none⟩) (Li.length + 1) cap) (Li ++ [d]) := by
              unfold Own
              simpa [u64s] using hown3
            have ho : Ot (fun k => (rows i).ownBlock = some k) w2 w3 := (((Ot.refl _ w2).drewN _).alloc _).step (ot_grown hgrow) (fun k hk _ => by rw [← hr0]; exact hk)
            have hput := HRW.out.put hiK ho hO (by rw [← hr0]; rcases hat with h | h; exact .inl h; exact .inr (by omega))
            have htake : (ks.map hN).take (t + 1) = (ks.map hN).take t ++ [h] := by
              rw [List.take_succ_eq_append_getElem (by simpa using htl)]
              congr 2
              rw [hh, hs]
              simp [List.getD_eq_getElem?_getD, htl]
            rw [htake, ← offL_snoc, ← hi', ← ha, ← HD.out, ← HLI.out]
            refine ⟨_, hput, hB3.trans (Below.trans (ho.below hw0 (fun k hk => by rw [← hr0] at hk; exact hg0 k hk)) ?_)⟩
            exact ((Ot.refl (fun k => k = w.heap.size) w3).setBlock w.heap.size _ (fun _ => rfl)).below (by have := ho.size; omega) (fun k hk => by omega)
      case rest =>
        obtain ⟨rows', hrw', hB'⟩ := hcut
        go_wp2_with fail
        go_roundg (H - (t + 1))
        case measure => omega
        case rel => exact ⟨t + 1, rows', by go_num, by omega, Nat.le_refl _, hrw', hB'⟩
    · have hlti : ¬ (t : Int) < H := by omega
      have htake : (ks.map hN).take t = ks.map hN := by
        rw [show t = (ks.map hN).length by rw [List.length_map, ← HH.out]; omega, List.take_length]
      rw [htake] at hrw
      obtain ⟨W0, hW0⟩ : ∃ W0, W0 = wr := ⟨_, rfl⟩
      subst hW0
      have c3' := (hB.cell (World.block_lt_of_cell? _ _ c3)).trans c3
      have hl3 := World.block_lt_of_cell? _ _ c3'
      dsimp only at hl3
      have HRW := hide (And.intro hrw hB)
      have hw0 : w.heap.size ≤ W0.heap.size := hB.size
      clear hrw hB htake
      go_wp2_with fail
      go_loopg [13, 53] N (fun kx v13 v53 wr => ∃ (i : Nat) (os : List Nat) (r : Bool) (pv : Value) (L' : Nat → List Nat), v13 = .bool r ∧ v53 = .int .i64 i ∧ i ≤ N ∧ N - i ≤ kx ∧
        Sx w W0.heap.size pv os rows L' wr ∧ (pv = nilS ↔ os = []) ∧ os.length ≤ i ∧ (∀ j, i ≤ j → L' j = offL pts (ks.map hN) j) ∧
        Hid (stps (skipP isU pts) (offS pts (ks.map hN)) (arc pts) (lastP pts) (N - i) i (os, r) = ST))
      case atStart =>
        obtain ⟨hrw, hB⟩ := HRW.out
        refine ⟨0, [], false, nilS, _, rfl, rfl, Nat.zero_le _, Nat.le_refl _, ⟨by simp, by simp, Own.nil _ _, hrw.below (below_alloc _ _), below_next hB (below_alloc _ _), by simp, fun j g hg => ((hrw.own j).lt g hg).2, ?_⟩, ⟨fun _ => rfl, fun _ => rfl⟩, Nat.le_refl _, fun _ _ => rfl, hide HST.out.symm⟩
        obtain ⟨p, hp⟩ := hrw.map
        exact lt_of_block hp.1
      case round =>
        obtain ⟨i, os, r, pv, L', rfl, rfl, hiN, hik, hX, hnil, hol, hL', HE⟩ := hrel
        by_cases hlt : i < N
        · have hlti2 : (i : Int) < N := by omega
          have hRg := HR.out.1.below hX.b
          have hpt := row_at hRg.pts.row (show i < pts.size by rw [← HN.out]; exact hlt)
          rw [Nat.zero_add] at hpt
          obtain ⟨x, hx⟩ : ∃ x, x = pts[i]!.1 := ⟨_, rfl⟩
          obtain ⟨y, hy⟩ : ∃ y, y = pts[i]!.2 := ⟨_, rfl⟩
          rw [← hx, ← hy] at hpt
          obtain ⟨hp1, hp2⟩ := hpt
          have HXY := hide (And.intro hx hy)
          have hyn : y < n := by rw [hy]; exact HR.out.2.2.2.2.1 i (by rw [← HN.out]; exact hlt)
          clear hx hy hRg
          have HX := hide hX
          have HL := hide hL'
          clear hX hL' c3 c0 c3' hmk
          go_upto_region 13 with (fail)
          go_cut [14, 15] from 54 to 149 (fun v14 v15 wc => v14 = .int .i64 i ∧ ∃ b, v15 = .pointer (some ⟨b, 0, none⟩) ∧ wc.cell? ⟨b, 0, none⟩ = some (.int .u64 x) ∧ wc.cell? ⟨b, 1, none⟩ = some (.int .i64 y) ∧ Below wr.heap.size wr wc)
          case first =>
            go_wp2_with fail
            go_meet
            case rel => exact ⟨rfl, _, rfl, by simp, by simp, below_alloc _ _⟩
          case rest =>
            obtain ⟨rfl, b, rfl, hb0, hb1, hbl⟩ := hcut
            have hX1 := HX.out.below hbl
            have hRg := HR.out.1.below hX1.b
            have r0 := hRg.c0
            have r3 := hRg.pts.c3
            rw [← HN.out] at r3
            have rn := hRg.ns y hyn
            have hyni : (y : Int) < n := by omega
            have hu := HR.out.2.2.2.1 y hyn
            have HX1 := hide hX1
            have HRg := hide hRg
            clear hX1 hRg HX hbl hp1 hp2
            go_upto_region 14 with (fail)
            go_cut [67] from 54 to 149 (fun v67 wd => v67 = .bool (!isU y) ∧ ∃ q, wd = wc.drewN q)
            case first =>
              go_quiet (fail)
              go_wp2_with fail
              go_meet
              case rel => exact ⟨rfl, nq, rfl⟩
            case rest =>
              obtain ⟨rfl, q0, rfl⟩ := hcut
              have hX2 := HX1.out.below (below_drewN (Below.refl _ _) q0)
              have hRg2 := HRg.out.below (below_drewN (Below.refl _ _) q0)
              have hb0' : (wc.drewN q0).cell? ⟨b, 0, none⟩ = some (.int .u64 x) := hb0
              have r3' : (wc.drewN q0).cell? ⟨R, 3, none⟩ = some (.slice (some ⟨pb, 0, none⟩) N cp) := r3
              have HX2 := hide hX2
              have HRg2 := hide hRg2
              clear hX2 hRg2 HX1 HRg hb0 hb1 r0 r3 rn hyni hu
              generalize wc.drewN q0 = W1 at *
              cases hub : isU y with
              | false =>
                have HUB := hide hub
                clear hub
                go_wp2_with fail
                go_roundg (N - (i + 1))
                case measure => omega
                case rel =>
                  refine ⟨i + 1, os, r, pv, L', rfl, by go_num, by omega, Nat.le_refl _, HX2.out, hnil, by omega, fun j hj => HL.out j (by omega), ?_⟩
                  refine hide ?_
                  rw [← HE.out, stps_skip hlt]
                  simp [skipP, ← HXY.out.2, HUB.out]
              | true =>
                have HUB := hide hub
                clear hub
                obtain ⟨st, hst⟩ : ∃ s, s = arc pts i := ⟨_, rfl⟩
                have hc15 := arc_at R pb cp i pts (by rw [← HN.out]; omega) (by rw [← HN.out]; exact hlt) W1 HRg2.out.pts
                rw [← hst] at hc15
                have HS := hide hst
                clear hst
                go_upto_region 16 with (go_at_call 15; refine hc15.mono ?_; rintro e w2 ⟨rfl, q1, rfl⟩)
                have hX3 := HX2.out.below (below_drewN (Below.refl _ _) q1)
                have HRg3 := hide (HRg2.out.below (below_drewN (Below.refl _ _) q1))
                have hb0 : (W1.drewN q1).cell? ⟨b, 0, none⟩ = some (.int .u64 x) := hb0'
                have r3 : (W1.drewN q1).cell? ⟨R, 3, none⟩ = some (.slice (some ⟨pb, 0, none⟩) N cp) := r3'
                have HX3 := hide hX3
                clear hX3 HX2 HRg2 hb0' r3' hc15
                generalize W1.drewN q1 = W2 at *
                go_cut [82] from 54 to 149 (fun v wd => v = .bool (decide (1 < N) && decide (st = x)) ∧ wd = W2)
                case first =>
                  by_cases h2 : st = x
                  · subst h2
                    by_cases h1 : 1 < N
                    · have h1i : (1 : Int) < N := by omega
                      go_wp2_with fail
                      go_meet
                      case rel => exact ⟨by simp [h1], rfl⟩
                    · have h1i : ¬ (1 : Int) < N := by omega
                      go_wp2_with fail
                      go_meet
                      case rel => exact ⟨by simp [h1], rfl⟩
                  · have h2i : ¬ (st : Int) = x := by omega
                    go_wp2_with fail
                    go_meet
                    case rel => exact ⟨by simp [h2], rfl⟩
                case rest =>
                  obtain ⟨rfl, rfl⟩ := hcut
                  cases hsk : (decide (1 < N) && decide (st = x)) with
                  | true =>
                    have HSK := hide hsk
                    clear hsk
                    go_wp2_with fail
                    go_roundg (N - (i + 1))
                    case measure => omega
                    case rel =>
                      refine ⟨i + 1, os, r, pv, L', rfl, by go_num, by omega, Nat.le_refl _, HX3.out, hnil, by omega, fun j hj => HL.out j (by omega), ?_⟩
                      refine hide ?_
                      rw [← HE.out, stps_skip hlt]
                      have h := HSK.out
                      rw [HS.out, HXY.out.1, HN.out] at h
                      simp only [skipP, h, Bool.or_true]
                  | false =>
                    have hNS : skipP isU pts i = false := by
                      have h := hsk
                      rw [HS.out, HXY.out.1, HN.out] at h
                      simp only [skipP, h, ← HXY.out.2, HUB.out, Bool.or_false, Bool.not_true]
                    have HNS := hide hNS
                    clear hsk hNS
                    obtain ⟨L, hL⟩ : ∃ L, L = lastP pts i := ⟨_, rfl⟩
                    have e1 := sub64_int x st
                    have e2 : IntKind.u64.wrap ((sub64 x st : Nat) - 1) = (sub64 (sub64 x st) 1 : Nat) := sub64_int (sub64 x st) 1
                    have e3 : sub64 (sub64 x st) 1 = L := by rw [hL, lastP, HXY.out.1, HS.out]
                    rw [e3] at e2
                    have hL64 : L < 18446744073709551616 := by rw [← e3]; exact sub64_lt _ _
                    generalize sub64 x st = d1 at e1 e2
                    have HLL := hide hL
                    clear e3 hL
                    rename World => W2
                    obtain ⟨li, hli⟩ : ∃ l, l = offL pts (ks.map hN) i := ⟨_, rfl⟩
                    have hown := HX3.out.rw.own i
                    rw [HL.out i (Nat.le_refl _), ← hli] at hown
                    obtain ⟨ai, ci, hri, hsh⟩ := hown.shape
                    have hlil : li.length ≤ 100000 := by
                      have := offL_len pts (ks.map hN) i
                      rw [← hli, List.length_map, ← HH.out] at this
                      omega
                    have hlk := lookup_run (W := W2) (mb := w.heap.size) (i := i) HX3.out.rw.map (by unfold K63; omega)
                    rw [HX3.out.rw.val i, hri] at hlk
                    have HLI := hide hli
                    have HRI := hide hri
                    clear hli hri hsh hown
                    go_upto_region 18 with (fail)
                    go_cut [18] from 54 to 149 (fun v18 wd => ∃ b2, v18 = .pointer (some ⟨b2, 0, none⟩) ∧ wd.cell? ⟨b2, 0, none⟩ = some (.slice ai li.length ci) ∧ Below W2.heap.size W2 wd ∧ W2.heap.size ≤ b2)
                    case first =>
                      go_wp2_with fail
                      go_meet
                      case rel => exact ⟨_, rfl, by simp, below_alloc _ _, Nat.le_refl _⟩
                    case rest =>
                      obtain ⟨b2, rfl, hc2, hbl2, hb2⟩ := hcut
                      have hX4 := HX3.out.below hbl2
                      have HRg4 := hide (HRg3.out.below hbl2)
                      have hown := hX4.rw.own i
                      rw [HL.out i (Nat.le_refl _), ← HLI.out, HRI.out] at hown
                      have hne2 : (Value.slice ai li.length ci).ownBlock ≠ some b2 := fun h => by
                        rw [← HRI.out] at h
                        have h1 := hX4.low i _ h
                        have h2 := HX3.out.sz
                        omega
                      have hS := (sortU_at 17 b2 ci w.heap.size ai li wc (.inl rfl) hown hc2 hne2 (by omega)).mono (R' := fun e w' => e = .returned (.tuple #[]) ∧ w'.cell? ⟨b2, 0, none⟩ = some (.slice ai li.length ci) ∧ Own w' w.heap.size (.slice ai li.length ci) (srt li) ∧ Sx w W0.heap.size pv os rows (fun j => if j = i then srt li else L' j) w')
                        (fun e w' ⟨k1, k2, k3⟩ => ⟨k1, k3.cellv hc2 hne2, k2, hX4.turn (by rw [HRI.out]; exact k3) (by rw [HRI.out]; exact k2)⟩)
                      have HS4 := hide hS
                      clear hS hX4 hown hne2 hbl2 HX3 HRg3 hb0 r3 hlk e1 e2
                      go_upto_region 20 with (go_at_call 16; refine HS4.out.mono ?_; rintro e w5 ⟨rfl, hc5, hown5, hX5⟩)
                      have HX5 := hide hX5
                      obtain ⟨l, hl'⟩ : ∃ l, l = srt li := ⟨_, rfl⟩
                      rw [← hl'] at hown5
                      have hlen : li.length = l.length := by rw [hl', (srt_perm li).length_eq]
                      rw [hlen] at hown5 hc5 hlil
                      have hlS : l = offS pts (ks.map hN) i := by rw [hl', HLI.out]; rfl
                      have HLT : Hid (∀ t, l.getD t 0 < 18446744073709551616) := hide (fun t => by
                        refine getD_lt (by omega) (fun z hz => ?_) t
                        rw [hl', (srt_perm li).mem_iff, HLI.out] at hz
                        obtain ⟨h', _, rfl⟩ := List.mem_map.1 hz
                        exact sub64_lt _ _)
                      have hsh : 0 < l.length → ∃ g, ai = some ⟨g, 0, none⟩ ∧ ∀ j, j < l.length → w5.cell? ⟨g, j, none⟩ = some (.int .u64 (l.getD j 0)) := fun h0 => by
                        rcases hown5.form with ⟨_, h⟩ | ⟨g, cap', he, _, _, h3, _⟩
                        · rw [h] at h0; simp at h0
                        · simp only [Value.slice.injEq] at he
                          exact ⟨g, he.1, h3⟩
                      have HG : Hid (Hid (stps (skipP isU pts) (offS pts (ks.map hN)) (arc pts) (lastP pts) (N - (i + 1)) (i + 1) (os ++ (pickP st L l (takeP l.length r)).toList, if l.length % 2 = 1 then !r else r) = ST)) := hide (by
                        have h := HE.out
                        rw [stps_go hlt HNS.out, ← HS.out, ← HLL.out, ← hlS] at h
                        exact hide h)
                      have HL5 : Hid (∀ j, i + 1 ≤ j → (if j = i then srt li else L' j) = offL pts (ks.map hN) j) := hide (fun j hj => by
                        rw [if_neg (by omega)]; exact HL.out j (by omega))
                      clear hX5 hown5 hl' hlS HS4 HE HNS HL HLI hlen HRI
                      obtain ⟨k, hk⟩ : ∃ k, k = l.length := ⟨_, rfl⟩
                      rw [← hk] at hlil hsh HG hc5
                      have HK := hide hk
                      clear hk
                      obtain ⟨m, hm⟩ : ∃ m, m = takeP k r := ⟨_, rfl⟩
                      obtain ⟨r', hr'⟩ : ∃ r', r' = (if k % 2 = 1 then !r else r) := ⟨_, rfl⟩
                      rw [← hm, ← hr'] at HG
                      have hmk : m ≤ k := by rw [hm]; exact takeP_le k r
                      clear hc2
                      go_upto_if 101 with (fail)
                      go_cut [13, 19] from 54 to 149 (fun v13 v19 we => v19 = .int .i64 m ∧ v13 = .bool r' ∧ we = w5)
                      case first =>
                        by_cases hk2 : k % 2 = 1
                        · have hk2i : ((k : Int) % 2) = 1 := by omega
                          have HK2 := hide hk2
                          have HM2 := hide hm
                          have HR2 := hide hr'
                          clear hm hr' hk2
                          cases r
                          · go_wp2_with fail
                            go_meet
                            case rel =>
                              refine ⟨?_, ?_, rfl⟩
                              · rw [HM2.out, takeP, if_neg (by simp)]; go_num
                              · rw [HR2.out, if_pos HK2.out]; rfl
                          · go_wp2_with fail
                            go_meet
                            case rel =>
                              refine ⟨?_, ?_, rfl⟩
                              · rw [HM2.out, takeP, if_pos ⟨HK2.out, rfl⟩]
                                have := HK2.out
                                congr 1
                                omega
                              · rw [HR2.out, if_pos HK2.out]; rfl
                        · have hk2i : ¬ ((k : Int) % 2) = 1 := by omega
                          have HK2 := hide hk2
                          have HM2 := hide hm
                          have HR2 := hide hr'
                          clear hm hr' hk2
                          go_wp2_with fail
                          go_meet
                          case rel =>
                            refine ⟨?_, ?_, rfl⟩
                            · rw [HM2.out, takeP, if_neg (fun h => HK2.out h.1)]; go_num
                            · rw [HR2.out, if_neg HK2.out]
                      case rest =>
                        obtain ⟨rfl, rfl, rfl⟩ := hcut
                        clear hm hr'
                        by_cases hL0 : L = 0
                        · have hL0i : (L : Int) = 0 := by omega
                          go_wp2_with fail
                          go_roundg (N - (i + 1))
                          case measure => omega
                          case rel =>
                            refine ⟨i + 1, os, r', pv, _, rfl, by go_num, by omega, Nat.le_refl _, HX5.out, hnil, by omega, HL5.out, ?_⟩
                            have h := HG.out.out
                            rw [hL0, pick_last0] at h
                            exact hide (by simpa using h)
                        · have hL0i : ¬ (L : Int) = 0 := by omega
                          obtain ⟨lo, hlo⟩ : ∃ lo, lo = loP l m := ⟨_, rfl⟩
                          have HLO := hide hlo
                          have hlo64 : lo < 18446744073709551616 := by
                            rw [hlo, loP]
                            split
                            · exact HLT.out _
                            · omega
                          clear hlo
                          have hLm : IntKind.u64.wrap ((L : Int) - 1) = ((L - 1 : Nat) : Int) := by
                            rw [IntKind.wrap_u64]; omega
                          obtain ⟨L1, hL1⟩ : ∃ L1, L1 = L - 1 := ⟨_, rfl⟩
                          rw [← hL1] at hLm
                          have hL1lt : L1 < 18446744073709551616 := by omega
                          have HL1 := hide hL1
                          clear hL1
                          go_upto_if 112 with (fail)
                          go_cut [20] from 54 to 149 (fun v20 we => v20 = .int .u64 lo ∧ we = wc)
                          case first =>
                            by_cases hm0 : 0 < m
                            · have hm0i : (0 : Int) < m := by omega
                              obtain ⟨g, rfl, hcg⟩ := hsh (by omega)
                              have hc := hcg (m - 1) (by omega)
                              rw [show l.getD (m - 1) 0 = lo by rw [HLO.out, loP, if_pos hm0]] at hc
                              have hs1 : ((m : Int) - 1) = ((m - 1 : Nat) : Int) := by omega
                              have hs2 : ((m - 1 : Nat) : Int) < k := by omega
                              clear hcg hsh
                              generalize m - 1 = m1 at *
                              go_wp2_with fail
                              go_meet
                              case rel => exact ⟨rfl, rfl⟩
                            · have hm0i : ¬ (0 : Int) < m := by omega
                              go_wp2_with fail
                              go_meet
                              case rel =>
                                refine ⟨?_, rfl⟩
                                rw [HLO.out, loP, if_neg hm0]
                                rfl
                          case rest =>
                            obtain ⟨rfl, rfl⟩ := hcut
                            obtain ⟨hi2, hhi⟩ : ∃ hi2, hi2 = hiP L l m := ⟨_, rfl⟩
                            have HHI := hide hhi
                            clear hhi
                            go_upto_if 121 with (fail)
                            go_cut [21] from 54 to 149 (fun v21 we => v21 = .int .u64 hi2 ∧ (m < k → l.getD m 0 ≠ 0) ∧ we = wc)
                            case first =>
                              by_cases hmk2 : m < k
                              · have hmk2i : (m : Int) < k := by omega
                                obtain ⟨g, rfl, hcg⟩ := hsh (by omega)
                                have hc := hcg m (by omega)
                                obtain ⟨z, hz⟩ : ∃ z, z = l.getD m 0 := ⟨_, rfl⟩
                                have hz64 : z < 18446744073709551616 := by rw [hz]; exact HLT.out _
                                rw [← hz] at hc
                                have HZ := hide hz
                                clear hz hcg hsh
                                by_cases hz0' : z = 0
                                · have hz0i : (z : Int) = 0 := by omega
                                  go_wp2_with fail
                                  go_roundg (N - (i + 1))
                                  case measure => omega
                                  case rel =>
                                    refine ⟨i + 1, os, r', pv, _, rfl, by go_num, by omega, Nat.le_refl _, HX5.out, hnil, by omega, HL5.out, ?_⟩
                                    have h := HG.out.out
                                    rw [pick_zero (by rw [← HK.out]; exact hmk2) (by rw [← HZ.out]; exact hz0')] at h
                                    exact hide (by simpa using h)
                                · have hz0i : ¬ (z : Int) = 0 := by omega
                                  have hzm : IntKind.u64.wrap ((z : Int) - 1) = ((z - 1 : Nat) : Int) := by
                                    rw [IntKind.wrap_u64]; omega
                                  have HHI2 : Hid (hi2 = min L1 (z - 1)) := hide (by rw [HL1.out, HHI.out, hiP, if_pos (by rw [← HK.out]; exact hmk2), ← HZ.out])
                                  have HZ2 : Hid (m < k → l.getD m 0 ≠ 0) := hide (fun _ => by rw [← HZ.out]; exact hz0')
                                  have hz1lt : z - 1 < 18446744073709551616 := by omega
                                  generalize z - 1 = z1 at *
                                  go_wp2_with fail
                                  go_meet
                                  case rel =>
                                    refine ⟨?_, HZ2.out, rfl⟩
                                    rw [HHI2.out]
                                    congr 1
                                    omega
                              · have hmk2i : ¬ (m : Int) < k := by omega
                                go_wp2_with fail
                                go_meet
                                case rel => exact ⟨by rw [HHI.out, hiP, if_neg (by rw [← HK.out]; exact hmk2), ← HL1.out], fun h => absurd h hmk2, rfl⟩
                            case rest =>
                              obtain ⟨rfl, hnz, rfl⟩ := hcut
                              have hPK : pickP st L l m = if hi2 < lo then none else some (midP st lo hi2) := by
                                rw [pick_val hL0 (by rw [← HK.out]; exact hnz), ← HHI.out, ← HLO.out]
                              rw [hPK] at HG
                              have hi64 : hi2 < 18446744073709551616 := by
                                have h1 : hi2 ≤ L - 1 := by
                                  rw [HHI.out, hiP]
                                  split
                                  · exact Nat.min_le_left _ _
                                  · exact Nat.le_refl _
                                exact Nat.lt_of_le_of_lt (Nat.le_trans h1 (Nat.sub_le _ _)) hL64
                              clear hPK hnz hsh hLm
                              by_cases hlh : hi2 < lo
                              · have hlhi : (hi2 : Int) < lo := by omega
                                go_wp2_with fail
                                go_roundg (N - (i + 1))
                                case measure => omega
                                case rel =>
                                  refine ⟨i + 1, os, r', pv, _, rfl, by go_num, by omega, Nat.le_refl _, HX5.out, hnil, by omega, HL5.out, ?_⟩
                                  have h := HG.out.out
                                  rw [if_pos hlh] at h
                                  exact hide (by simpa using h)
                              · have hlhi : ¬ (hi2 : Int) < lo := by omega
                                have g1 : IntKind.u64.wrap ((st : Int) + 1) = (add64 st 1 : Nat) := add64_int st 1
                                have g2 := add64_int (add64 st 1) lo
                                have g3 := add64_int (add64 (add64 st 1) lo) ((hi2 - lo) / 2)
                                obtain ⟨c, hc⟩ : ∃ c, c = midP st lo hi2 := ⟨_, rfl⟩
                                have HC0 := hide hc
                                rw [midP] at hc
                                rw [← hc] at g3
                                have g4 : IntKind.u64.wrap ((hi2 : Int) - lo) = ((hi2 - lo : Nat) : Int) := by rw [IntKind.wrap_u64]; omega
                                have g5 : (((hi2 - lo : Nat) : Int) / 2) = (((hi2 - lo) / 2 : Nat) : Int) := by omega
                                have g6 : (hi2 - lo) / 2 < 18446744073709551616 := by omega
                                have g7 : hi2 - lo < 18446744073709551616 := by omega
                                have g8 := add64_lt st 1
                                have g9 := add64_lt (add64 st 1) lo
                                have g10 : c < 18446744073709551616 := by rw [hc]; exact add64_lt _ _
                                generalize add64 (add64 st 1) lo = c2 at g2 g3 g9
                                generalize add64 st 1 = c1 at g1 g2 g8
                                generalize (hi2 - lo) / 2 = c3 at g3 g5 g6
                                generalize hi2 - lo = c4 at g4 g5 g7
                                have g11 : IntKind.u64.wrap (c3 : Int) = c3 := by rw [IntKind.wrap_u64]; omega
                                clear hc
                                have bc := HX5.out.bc
                                have bf := HX5.out.bf
                                have bl := HX5.out.sz
                                have hownp : wc.ownsRow (W0.heap.size + 1) 28 1 pv os.length (u64s os) := HX5.out.own
                                have HLH := hide hlh
                                have HPB : Hid (pv.ownBlock ≠ some W0.heap.size) := hide (fun h => by have := (HX5.out.own.lt _ h).1; omega)
                                clear hlh hc5 hw0
                                go_wp2_with (at_builtin; refine wpList_append_lies _ (by rfl) _ _ 25 (by rfl) (W0.heap.size + 1) 28 i0 _ 1 8 Ybaf.underlying25 hi hz0 hz1 hz2 rfl (by omega) pv os.length (u64s os) (by rfl) (hownp.alloc _) ⟨wc.heap.size, 0, none⟩ 1 1 [.int .u64 c] (by rfl) (by rfl) (World.news_of_block (cs := #[.int .u64 c]) (t := 28) (fr := (0, 0)) (heap_alloc_new wc _)) (by simp [Value.oneCell']) (by omega) (by unfold maxLen; omega) (by omega) (by simp; omega) (wc.heap.size + 1) (by simp) ?_; intro g7 cap7 w7 hown7 hg7 hat7 hlt7; have ho7 : Ot (fun k => pv.ownBlock = some k) wc w7 := ((Ot.refl _ wc).alloc _).step (ot_grown hg7) (fun k hk _ => hk); have hc7 : w7.cell? ⟨W0.heap.size, 0, none⟩ = some pv := ho7.cellv bc HPB.out; have hf7 : w7.frozen? ⟨W0.heap.size, 0, none⟩ = false := (ho7.frozen (p := ⟨W0.heap.size, 0, none⟩) bl HPB.out).trans bf)
                                go_roundg (N - (i + 1))
                                case measure => omega
                                case rel =>
                                  have hO7 : Own w7 (W0.heap.size + 1) (.slice (some ⟨g7, 0, none⟩) (os.length + 1) cap7) (os ++ [c]) := by
                                    unfold Own
                                    simpa [u64s] using hown7
                                  have hpush := HX5.out.push ho7 hO7
                                  have hiff : ((Value.slice (some ⟨g7, 0, none⟩) (os.length + 1) cap7) = nilS ↔ os ++ [c] = []) := ⟨fun h => by simp at h, fun h => by simp at h⟩
                                  have hlen : (os ++ [c]).length ≤ i + 1 := by rw [List.length_append]; exact Nat.add_le_add hol (Nat.le_refl _)
                                  have hst : Hid (stps (skipP isU pts) (offS pts (ks.map hN)) (arc pts) (lastP pts) (N - (i + 1)) (i + 1) (os ++ [c], r') = ST) := by
                                    have h := HG.out.out
                                    rw [if_neg HLH.out, ← HC0.out] at h
                                    exact hide h
                                  exact ⟨i + 1, os ++ [c], r', .slice (some ⟨g7, 0, none⟩) (os.length + 1) cap7, (fun j => if j = i then srt li else L' j), rfl, by go_num, by omega, Nat.le_refl _, hpush, hiff, hlen, HL5.out, hst⟩
        · have hlti2 : ¬ (i : Int) < N := by omega
          obtain ⟨ao, cap, rfl, hsh⟩ := hX.own.shape
          have hS := (sortU_at 18 W0.heap.size cap (W0.heap.size + 1) ao os wr (.inr rfl) hX.own hX.bc (fun h => by have := (hX.own.lt _ h).1; omega) (by omega)).mono (R' := fun e w' => e = .returned (.tuple #[]) ∧ w'.cell? ⟨W0.heap.size, 0, none⟩ = some (.slice ao os.length cap) ∧ Own w' w.heap.size (.slice ao os.length cap) (srt os) ∧ Below w.heap.size w w')
            (fun e w' ⟨k1, k2, k3⟩ => ⟨k1, k3.cellv hX.bc (fun h => by have := (hX.own.lt W0.heap.size h).1; omega), k2.base (by omega), hX.b.trans (k3.below hX.b.size (fun k hk => by have := (hX.own.lt k hk).1; omega))⟩)
          have c0 := hX.bc
          have HS := hide hS
          clear hS hX hsh hL'
          go_wp2_with (go_at_call 16; refine HS.out.mono ?_; rintro e w2 ⟨rfl, k1, k2, k3⟩)
          go_ret
          have he := HE.out
          rw [show N - i = 0 by omega, stps] at he
          rw [← he]
          refine ⟨_, rfl, k2, hnil, k3⟩

end Go.Proofs.YbulkdjggFmt
