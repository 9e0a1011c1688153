/-
  newEmpty (9).
-/
import Derived.Test.YbulkdjggFmtX
import Derived.Test.YbulkdjggFmtT
import Derived.Deep.RegionHeld3
import Derived.Deep.CutBlock
import Derived.Deep.DeepCutAuto
namespace Go.Proofs.YbulkdjggFmt
open Go.RowKit Go.Sort Go.ChangeMaps

theorem lk_none {β : Type} : ∀ {l : List (Nat × β × Nat)} {k : Nat}, (∀ x ∈ l, x.1 ≠ k) → lk k l = none
  | [], _, _ => rfl
  | e :: l, k, h => by
    have : ¬ k = e.1 := fun he => h e (by simp) he.symm
    simp only [lk, if_neg this]
    exact lk_none (fun x hx => h x (by simp [hx]))

/-- The ring that newEmpty lays: its fields, its nodes, its positions given. -/
structure E0 (w : World) (R nb ob n cn pn : Nat) (ov : Nat → Value) (W : World) : Prop where
  c0 : W.cell? ⟨R, 0, none⟩ = some (.slice (some ⟨nb, 0, none⟩) n cn)
  c1 : W.cell? ⟨R, 1, none⟩ = some (.int .i64 pn)
  c2 : W.cell? ⟨R, 2, none⟩ = some (.slice (some ⟨ob, 0, none⟩) n n)
  c3 : W.cell? ⟨R, 3, none⟩ = some (.slice none 0 0)
  f3 : W.frozen? ⟨R, 3, none⟩ = false
  ns : ∀ i, i < n → W.cell? ⟨nb, i, none⟩ = some (.string (nm i))
  os : ∀ i, i < n → W.cell? ⟨ob, i, none⟩ = some (ov i) ∧ W.frozen? ⟨ob, i, none⟩ = false
  lR : w.heap.size ≤ R
  lnb : w.heap.size ≤ nb
  lob : w.heap.size ≤ ob
  dR : R ≠ ob
  dn : nb ≠ ob
  dRn : R ≠ nb
  b : Below w.heap.size w W

theorem E0.ot {w : World} {R nb ob n cn pn : Nat} {ov : Nat → Value} {W W' : World} {S : Nat → Prop} (h : E0 w R nb ob n cn pn ov W) (ho : Ot S W W') (hR : ¬ S R) (hn : ¬ S nb) (hob : ¬ S ob) (hS : ∀ k, S k → w.heap.size ≤ k) : E0 w R nb ob n cn pn ov W' :=
  ⟨ho.cellv h.c0 hR, ho.cellv h.c1 hR, ho.cellv h.c2 hR, ho.cellv h.c3 hR, (ho.frozen (p := ⟨R, 3, none⟩) (World.block_lt_of_cell? _ _ h.c3) hR).trans h.f3, fun i hi => ho.cellv (h.ns i hi) hn,
    fun i hi => ⟨ho.cellv (h.os i hi).1 hob, (ho.frozen (p := ⟨ob, i, none⟩) (World.block_lt_of_cell? _ _ (h.os i hi).1) hob).trans (h.os i hi).2⟩, h.lR, h.lnb, h.lob, h.dR, h.dn, h.dRn, h.b.trans (ho.below h.b.size hS)⟩

theorem e0_box {w W : World} {g ob n cap pn : Nat} (hO : Ot (fun _ => False) w W) (hg : ∀ i, i < n → W.cell? ⟨g, i, none⟩ = some (.string (nm i))) (hgl : g < W.heap.size) (hgw : w.heap.size ≤ g)
    (hob : ∀ i, i < n → W.cell? ⟨ob, i, none⟩ = some (.slice none 0 0) ∧ W.frozen? ⟨ob, i, none⟩ = false) (hol : ob < W.heap.size) (how : w.heap.size ≤ ob) (hd : g ≠ ob) :
    E0 w W.heap.size g ob n cap pn (fun _ => .slice none 0 0) (W.alloc (.cells #[.slice (some ⟨g, 0, none⟩) n cap, .int .i64 pn, .slice (some ⟨ob, 0, none⟩) n n, .slice none 0 0] 36)) := by
  have ha := Ot.of_below (fun _ => False) (below_alloc W (.cells #[.slice (some ⟨g, 0, none⟩) n cap, .int .i64 pn, .slice (some ⟨ob, 0, none⟩) n n, .slice none 0 0] 36))
  exact ⟨by simp, by simp, by simp, by simp, by simp, fun i hi => ha.cellv (hg i hi) (fun h => h), fun i hi => ⟨ha.cellv (hob i hi).1 (fun h => h), (ha.frozen (p := ⟨ob, i, none⟩) hol (fun h => h)).trans (hob i hi).2⟩,
    hO.size, hgw, how, by omega, hd, by omega, (hO.step ha (fun _ h _ => h)).below (Nat.le_refl _) (fun _ h => h.elim)⟩

theorem names_at {W : World} {B g n cap : Nat} (h : W.ownsRow B 9 1 (.slice (some ⟨g, 0, none⟩) (0 + n) cap) (0 + n) ([] ++ (List.range n).map fun i => Value.string (nm i))) : B ≤ g ∧ ∀ i, i < n → W.cell? ⟨g, i, none⟩ = some (.string (nm i)) := by
  refine ⟨(World.ownsRow.lt h g rfl).1, fun i hi => ?_⟩
  rw [h.cellAt i (by omega)]
  simp [hi]

theorem E0.set {w : World} {R nb ob n cn pn : Nat} {ov : Nat → Value} {W : World} (h : E0 w R nb ob n cn pn ov W) (t : Nat) (v : Value) : E0 w R nb ob n cn pn (fun i => if i = t then v else ov i) (W.setCell ⟨ob, t, none⟩ v) := by
  have ho : Ot (fun k => k = ob) W (W.setCell ⟨ob, t, none⟩ v) := (Ot.refl (fun k => k = ob) W).setCell (p := ⟨ob, t, none⟩) (fun _ => rfl) _
  have hR : ¬ R = ob := h.dR
  have hn : ¬ nb = ob := h.dn
  refine ⟨ho.cellv h.c0 hR, ho.cellv h.c1 hR, ho.cellv h.c2 hR, ho.cellv h.c3 hR, (ho.frozen (p := ⟨R, 3, none⟩) (World.block_lt_of_cell? _ _ h.c3) hR).trans h.f3, fun i hi => ho.cellv (h.ns i hi) hn,
    fun i hi => ⟨?_, by rw [World.frozen?_setCell]; exact (h.os i hi).2⟩, h.lR, h.lnb, h.lob, h.dR, h.dn, h.dRn, h.b.trans (ho.below h.b.size (fun k hk => by have := h.lob; omega))⟩
  by_cases hit : i = t
  · subst hit
    rw [if_pos rfl]
    exact World.cell?_setCell_same _ _ _ (h.os i hi).1
  · rw [if_neg hit, World.cell?_setCell_other _ _ _ _ (fun e => hit (by cases e; rfl))]
    exact (h.os i hi).1

/-- What stands while a node's positions are copied. -/
structure Zo (ob t : Nat) (W W' : World) : Prop where
  ot : Ot (fun k => k = ob) W W'
  c : (W'.cell? ⟨ob, t, none⟩).isSome = true
  f : W'.frozen? ⟨ob, t, none⟩ = false
noncomputable def cv (W : World) (ob t : Nat) : Value := (W.cell? ⟨ob, t, none⟩).getD (.bool false)
section
variable {ob t : Nat} {W W' W2 : World}
theorem Zo.drew (h : Zo ob t W W') : Zo ob t W W'.drew := ⟨h.ot.drew, h.c, h.f⟩
theorem Zo.lt (h : Zo ob t W W') : ob < W'.heap.size := by
  obtain ⟨v, hv⟩ := Option.isSome_iff_exists.1 h.c
  exact World.block_lt_of_cell? _ _ hv
theorem Zo.grown (h : Zo ob t W W') (hg : W'.grownBy W2 none) : Zo ob t W W2 := by
  have ho := ot_grown hg
  exact ⟨h.ot.step ho (fun k hk _ => by cases hk), by rw [ho.cell (p := ⟨ob, t, none⟩) h.lt (by simp)]; exact h.c, by rw [ho.frozen (p := ⟨ob, t, none⟩) h.lt (by simp)]; exact h.f⟩
theorem Zo.set (h : Zo ob t W W') (v : Value) : Zo ob t W (W'.setCell ⟨ob, t, none⟩ v) := by
  obtain ⟨u, hu⟩ := Option.isSome_iff_exists.1 h.c
  exact ⟨h.ot.setCell (fun _ => rfl) v, by rw [World.cell?_setCell_same _ _ _ hu]; rfl, by rw [World.frozen?_setCell]; exact h.f⟩
end

/-- The placement given: for each node none, or its row. -/
def Pl (w : World) (n : Nat) (l : List (Nat × Value × Nat)) (px : Nat → List Nat) : Prop :=
  ∀ i, i < n → (lk i l = none ∧ px i = []) ∨ ∃ g cap, lk i l = some (.slice (some ⟨g, 0, none⟩) (px i).length cap) ∧ 0 < (px i).length ∧ ∀ j, j < (px i).length → w.cell? ⟨g, j, none⟩ = some (.int .u64 ((px i).getD j 0))

theorem nm_pos (i : Nat) : ((nm i).toList == (⟨#[]⟩ : ByteArray).toList) = false := by
  have : (⟨#[]⟩ : ByteArray).toList = [] := by simp [ByteArray.toList, ByteArray.toList.loop, ByteArray.size]
  rw [nm_list, this]
  split <;> rfl

set_option maxHeartbeats 4000000 in
set_option maxRecDepth 100000 in
theorem empty_at (nb0 n cn0 pn pm : Nat) (l : List (Nat × Value × Nat)) (c : Nat) (px : Nat → List Nat) (w : World) (hns : ∀ i, i < n → w.cell? ⟨nb0, i, none⟩ = some (.string (nm i))) (hn1 : 1 ≤ n) (hn4 : n ≤ 4) (hp1 : 1 ≤ pn)
    (hm : w.heap[pm]? = some (mobj sk id l c)) (hk : ∀ e ∈ l, e.1 < 4) (hpl : Pl w n l px) (hpx : ∀ i, (px i).length ≤ 4096) :
    Calls Ybaf.prog 9 #[.slice (some ⟨nb0, 0, none⟩) n cn0, .int .i64 pn, .map (some pm)] w fun e w' =>
      ∃ R nb cn ob ov, e = .returned (.tuple #[.pointer (some ⟨R, 0, none⟩), .nilIface]) ∧ E0 w R nb ob n cn pn ov w' ∧ ∀ i, i < n → Rd w' (ov i) (px i) ∧ ∀ g, (ov i).ownBlock = some g → w.heap.size ≤ g ∧ g ≠ R := by
  obtain ⟨i0, hi, hz0, hz1, hz2⟩ := info_parts Ybaf.info28
  obtain ⟨i9, hi9, hs0, hs1, hs2⟩ := info_parts Ybaf.info9
  obtain ⟨Z, hZs, hZ, hmk⟩ := make22 n (by omega)
  have hni : ¬ (n : Int) = 0 := by omega
  have hpi : ¬ (pn : Int) < 1 := by omega
  have HA := hide (And.intro hns (And.intro hm (And.intro hk (And.intro hpl (And.intro hZ hpx)))))
  clear hns hm hk hpl hZ
  go_enter Ybaf.func9, Ybaf.ntmps9
  go_upto_region 5 with (fail)
  go_cut [8] (fun v8 wc => ∃ R nb cn ob, v8 = .pointer (some ⟨R, 0, none⟩) ∧ E0 w R nb ob n cn pn (fun _ => .slice none 0 0) wc)
  case first =>
    have HK : Hid (∀ W', Ot (fun _ => False) w W' → ∀ j u, ((List.range n).map fun i => Value.string (nm i))[j]? = some u → W'.cell? ((⟨nb0, 0, none⟩ : Addr).add j) = some u) := hide (fun W' ho j u hu => by
      rw [List.getElem?_map] at hu
      rcases Nat.lt_or_ge j n with h | h
      · rw [List.getElem?_range h] at hu
        simp only [Option.map_some, Option.some.injEq] at hu
        subst hu
        have := ho.cellv (HA.out.1 j h) (fun h => h)
        rcases Nat.eq_zero_or_pos j with h0 | h0
        · subst h0; simpa [Addr.add] using this
        · have h0' : ¬ j = 0 := by omega
          simpa [Addr.add, h0'] using this
      · rw [List.getElem?_eq_none (by simpa using h)] at hu
        simp at hu)
    have HO : Hid (∀ W' : World, W'.ownsRow w.heap.size 9 1 (.slice none 0 0) 0 []) := hide (fun W' => World.ownsRow_nil W' w.heap.size 9 1)
    go_region_held3 (fun W' => Ot (fun _ => False) w W')
      ((first
        | assumption
        | (exact Ot.drew (by assumption))
        | (exact (Ot.refl _ _).drew)
        | (exact Ot.alloc (by assumption) _)
        | (exact Ot.step (by assumption) (ot_grown hgrow) (fun k hk _ => by simp [Value.ownBlock] at hk))))
      (first
        | (refine step_append_lies _ (by rfl) _ _ _ (by rfl) w.heap.size 9 i9 _ 1 16 Ybaf.underlying23 hi9 hs0 hs1 hs2 rfl (by omega) (.slice none 0 0) 0 [] (by rfl) (unhide HO _)
            ⟨nb0, 0, none⟩ n cn0 ((List.range n).map fun i => Value.string (nm i)) (by rfl) (by simp) (unhide HK _ (by assumption)) (by intro u hu; obtain ⟨i, _, rfl⟩ := List.mem_map.1 hu; rfl)
            (by omega) (by unfold maxLen; omega) (by omega) (Ot.size (by assumption)) _ rfl ?_; intro g cap w3 hown3 hgrow hat hlt3))
    · go_wp2_with fail
      go_meet
      case rel =>
        obtain ⟨k1, k2⟩ := names_at hown3
        have hO3 : Ot (fun _ => False) w w3 := (Ot.refl _ w).drew.step (ot_grown hgrow) (fun k hk _ => by simp [Value.ownBlock] at hk)
        have hZ := HA.out.2.2.2.2.1
        have ha := Ot.of_below (fun _ => False) (below_alloc w3 (.cells Z 25))
        have := e0_box (w := w) (W := w3.alloc (.cells Z 25)) (g := g) (ob := w3.heap.size) (n := n) (cap := cap) (pn := pn) (hO3.alloc _) (fun i hi => ha.cellv (k2 i hi) (fun h => h)) (by simp; omega) k1
          (fun i hi => ⟨by rw [World.cell?_alloc_at _ _ _ _ rfl]; exact hZ i hi, World.frozen?_alloc_at _ _ _ _ rfl⟩) (by simp) hO3.size (by omega)
        exact ⟨_, _, _, _, rfl, by simpa using this⟩
    · go_wp2_with fail
      go_meet
      case rel =>
        obtain ⟨k1, k2⟩ := names_at hown3
        have hgr := ot_grown hgrow
        have hO3 : Ot (fun _ => False) w w3 := (((Ot.refl _ w).alloc (.cells Z 25)).drew).step hgr (fun k hk _ => by simp [Value.ownBlock] at hk)
        have hZ := HA.out.2.2.2.2.1
        have hne : g = w.heap.size + 1 := by
          rcases hat with h | h
          · simp [Value.ownBlock] at h
          · simpa using h
        have hl := hgr.size
        simp at hl
        exact ⟨_, _, _, _, rfl, e0_box (w := w) (W := w3) (g := g) (ob := w.heap.size) (n := n) (cap := cap) (pn := pn) hO3 k2 hlt3 k1
          (fun i hi => ⟨hgr.cellv (show (w.alloc (.cells Z 25)).drew.cell? ⟨w.heap.size, i, none⟩ = _ by
            show (w.alloc (.cells Z 25)).cell? _ = _
            rw [World.cell?_alloc_at _ _ _ _ rfl]; exact hZ i hi) (by simp [Value.ownBlock]), (hgr.frozen (p := ⟨w.heap.size, i, none⟩) (by simp) (by simp [Value.ownBlock])).trans (World.frozen?_alloc_at _ _ _ _ rfl)⟩) (by omega) (Nat.le_refl _) (by omega)⟩
  case rest =>
    obtain ⟨R, nb, cn, ob, rfl, hE⟩ := hcut
    obtain ⟨sb, hsb⟩ : ∃ sb, sb = wc.heap.size := ⟨_, rfl⟩
    have hmm : (Instr.makeMap 55 (some (.int .i64 n))).run Ybaf.prog wc = .ok (.map (some sb)) (wc.alloc (.map #[] 0)) := by
      rw [hsb]
      rfl
    have hRl : R < sb := by rw [hsb]; exact World.block_lt_of_cell? _ _ hE.c0
    have hol : ob < sb := by rw [hsb]; exact World.block_lt_of_cell? _ _ (hE.os 0 (by omega)).1
    have hnl : nb < sb := by rw [hsb]; exact World.block_lt_of_cell? _ _ (hE.ns 0 (by omega))
    have hwl : w.heap.size ≤ sb := by rw [hsb]; exact hE.b.size
    have HE := hide hE
    have HSB := hide hsb
    clear hE hsb hmk
    go_wp2_with fail
    go_loopg [37] n (fun kx v37 wr => ∃ (t : Nat) (ov : Nat → Value) (ls : List (Nat × Bool × Nat)) (cs : Nat), v37 = .int .i64 t ∧ t ≤ n ∧ n - t ≤ kx ∧ E0 w R nb ob n cn pn ov wr ∧ (∀ i, t ≤ i → ov i = .slice none 0 0) ∧
      wr.heap[sb]? = some (mobj sk Value.bool ls cs) ∧ (∀ e ∈ ls, e.1 < t) ∧ ∀ i, i < t → Rd wr (ov i) (px i) ∧ ∀ g, (ov i).ownBlock = some g → w.heap.size ≤ g ∧ g ≠ R ∧ g ≠ ob ∧ g ≠ sb)
    case atStart =>
      refine ⟨0, fun _ => .slice none 0 0, [], 0, rfl, Nat.zero_le _, Nat.le_refl _, ?_, fun _ _ => rfl, ?_, by simp, fun i hi => by omega⟩
      · exact HE.out.ot (Ot.of_below (fun _ => False) (below_alloc _ _)) (fun h => h) (fun h => h) (fun h => h) (fun _ h => h.elim)
      · rw [HSB.out]; exact heap_alloc_new _ _
    case round =>
      obtain ⟨t, ov, ls, cs, rfl, htn, htk, hE, hnil, hsm, hls, hrd⟩ := hrel
      by_cases hlt : t < n
      · have hlti : (t : Int) < n := by omega
        have hc := (hE.b.cell (World.block_lt_of_cell? _ _ (HA.out.1 t hlt))).trans (HA.out.1 t hlt)
        have hne : (nm t).toList.isEmpty = false := by rw [nm_list]; split <;> rfl
        have hl0 : lk t ls = none := lk_none (fun x hx => by have := hls x hx; omega)
        have hlk := run_lookup_mine (P := Ybaf.prog) (w := wr) (t := 55) (V := Value.bool) Ybaf.underlying55 keys9 (show t < 4 by omega) (fun e he => by have := hls e he; omega) hsm (.bool false) (by kernel_rfl) false
        rw [hl0] at hlk
        have hup := run_update_mine (P := Ybaf.prog) (w := wr) (t := 55) (V := Value.bool) Ybaf.underlying55 keys9 (show t < 4 by omega) (fun e he => by have := hls e he; omega) hsm true
        obtain ⟨W1, hW1⟩ : ∃ W1, W1 = setBlock wr sb (mobj sk Value.bool (upd t true cs ls) (updc t cs ls)) := ⟨_, rfl⟩
        rw [← hW1] at hup
        have ho1 : Ot (fun k => k = sb) wr W1 := by rw [hW1]; exact (Ot.refl _ wr).setBlock sb _ (fun _ => rfl)
        have hs1 : W1.heap[sb]? = some (mobj sk Value.bool (upd t true cs ls) (updc t cs ls)) := by rw [hW1]; exact heap_setBlock_eq _ _ _ (lt_of_block hsm)
        have hk1 : ∀ e ∈ upd t true cs ls, e.1 < t + 1 := upd_keys t true cs (t + 1) (by omega) ls (fun e he => by have := hls e he; omega)
        have hE1 : E0 w R nb ob n cn pn ov W1 := hE.ot ho1 (by omega) (by omega) (by omega) (fun k hk => by omega)
        have hrd1 : ∀ i, i < t → Rd W1 (ov i) (px i) ∧ ∀ g, (ov i).ownBlock = some g → w.heap.size ≤ g ∧ g ≠ R ∧ g ≠ ob ∧ g ≠ sb := fun i hi => by
          obtain ⟨k1, k2⟩ := hrd i hi
          refine ⟨?_, k2⟩
          rcases k1 with k | ⟨g, cap, k, k3, k4⟩
          · exact .inl k
          · exact .inr ⟨g, cap, k, k3, fun j hj => ho1.cellv (k4 j hj) (fun h => (k2 g (by rw [k]; rfl)).2.2.2 h)⟩
        have hpm : W1.heap[pm]? = some (mobj sk id l c) := (hE1.b.block pm (lt_of_block HA.out.2.1)).trans HA.out.2.1
        have hlp := run_lookup_mine (P := Ybaf.prog) (w := W1) (t := 27) (V := id) Ybaf.underlying27 keys9 (show t < 4 by omega) HA.out.2.2.1 hpm (.slice none 0 0) (by kernel_rfl) true
        have HX := hide (And.intro hE1 (And.intro hs1 (And.intro hk1 hrd1)))
        have HN := hide hnil
        simp only [sk, Option.map_none, Option.getD_none, Bool.false_eq_true, if_false, if_true] at hlk hup hlp
        clear hE hnil hsm hls hrd hl0 hW1 ho1 hs1 hk1 hE1 hrd1 hpm
        rcases HA.out.2.2.2.1 t hlt with ⟨hn0, hx0⟩ | ⟨g, cap, hs0', hpos, hcg⟩
        · rw [hn0] at hlp
          simp only [Option.map_none, Option.getD_none, Option.isSome_none] at hlp
          go_wp2_with fail
          go_roundg (n - (t + 1))
          case measure => omega
          case rel =>
            obtain ⟨k1, k2, k3, k4⟩ := HX.out
            refine ⟨t + 1, ov, _, _, by go_num, by omega, Nat.le_refl _, k1, fun i hi => HN.out i (by omega), k2, k3, fun i hi => ?_⟩
            rcases Nat.lt_or_ge i t with h | h
            · exact k4 i h
            · rw [show i = t by omega, HN.out t (Nat.le_refl _), hx0]
              exact ⟨.inl ⟨rfl, rfl⟩, fun g h => by simp [Value.ownBlock] at h⟩
        · rw [hs0'] at hlp
          simp only [Option.map_some, Option.getD_some, Option.isSome_some, id] at hlp
          obtain ⟨m, hm⟩ : ∃ m, m = (px t).length := ⟨_, rfl⟩
          rw [← hm] at hlp hpos
          have hm4 : m ≤ 4096 := by rw [hm]; exact hpx t
          have hm0 : ¬ (m : Int) = 0 := by omega
          have hgl := World.block_lt_of_cell? _ _ (hcg 0 (by omega))
          dsimp only at hgl
          have HNW : Hid (∀ W', Ot (fun k => w.heap.size ≤ k) w W' → ∀ j u, (u64s (px t))[j]? = some u → W'.cell? ((⟨g, 0, none⟩ : Addr).add j) = some u) := hide (fun W' ho j u hu => by
            rw [List.getElem?_map] at hu
            rcases Nat.lt_or_ge j (px t).length with h | h
            · rw [List.getElem?_eq_getElem h] at hu
              simp only [Option.map_some, Option.some.injEq] at hu
              subst hu
              have := ho.cellv (hcg j h) (show ¬ w.heap.size ≤ g by omega)
              rw [List.getD_eq_getElem?_getD, List.getElem?_eq_getElem h, Option.getD_some] at this
              rcases Nat.eq_zero_or_pos j with h0 | h0
              · subst h0; simpa [Addr.add] using this
              · have h0' : ¬ j = 0 := by omega
                simpa [Addr.add, h0'] using this
            · rw [List.getElem?_eq_none (by simpa using h)] at hu
              simp at hu)
          have HM := hide (And.intro hm hcg)
          clear hcg hm
          go_upto_region 19 with (fail)
          obtain ⟨hE1, hs1, hk1, hrd1⟩ := HX.out
          have hz0' : Zo ob t W1 W1 := ⟨Ot.refl _ _, by rw [(hE1.os t hlt).1]; rfl, (hE1.os t hlt).2⟩
          have hRo : ¬ R = ob := hE1.dR
          have HS : Hid (∀ W', Zo ob t W1 W' → W'.cell? ⟨R, 2, none⟩ = some (.slice (some ⟨ob, 0, none⟩) n n) ∧ W'.cell? ⟨ob, t, none⟩ = some (cv W' ob t) ∧ W'.frozen? ⟨ob, t, none⟩ = false ∧ Zo ob t W1 W') := hide (fun W' hz => by
            refine ⟨hz.ot.cellv hE1.c2 hRo, ?_, hz.f, hz⟩
            obtain ⟨u, hu⟩ := Option.isSome_iff_exists.1 hz.c
            unfold cv
            rw [hu]; rfl)
          have HW : Hid (∀ W', Zo ob t W1 W' → Ot (fun k => w.heap.size ≤ k) w W') := hide (fun W' hz => (Ot.of_below (fun k => w.heap.size ≤ k) hE1.b).step hz.ot (fun k hk _ => by have := hE1.lob; omega))
          have HOW : Hid (∀ W' : World, W'.ownsRow w.heap.size 28 1 (.slice none 0 0) 0 []) := hide (fun W' => World.ownsRow_nil W' w.heap.size 28 1)
          have HWS : Hid (∀ W', Zo ob t W1 W' → w.heap.size ≤ W'.heap.size) := hide (fun W' hz => Nat.le_trans hE1.b.size hz.ot.size)
          have hul : (u64s (px t)).length = m * 1 := by rw [HM.out.1]; simp
          clear hE1 hs1 hk1 hrd1 hlk hup hlp hc
          go_region_held3 (fun W' => W'.cell? ⟨R, 2, none⟩ = some (.slice (some ⟨ob, 0, none⟩) n n) ∧ W'.cell? ⟨ob, t, none⟩ = some (cv W' ob t) ∧ W'.frozen? ⟨ob, t, none⟩ = false ∧ Zo ob t W1 W')
            ((refine unhide HS _ ?_
              go_split_ands
              first
                | assumption
                | (exact Zo.drew (by assumption))
                | (exact Zo.set (by assumption) _)
                | (exact Zo.grown (by assumption) hgrow)))
            (first
              | (refine step_append_lies _ (by rfl) _ _ _ (by rfl) w.heap.size 28 i0 _ 1 8 Ybaf.underlying25 hi hz0 hz1 hz2 rfl (by omega) (.slice none 0 0) 0 [] (by rfl) (unhide HOW _)
                  ⟨g, 0, none⟩ m cap (u64s (px t)) (by rfl) hul (unhide HNW _ (unhide HW _ (by go_split_ands; assumption))) (u64s_oneCell _)
                  (by omega) (by unfold maxLen; omega) (by omega) (unhide HWS _ (by go_split_ands; assumption)) _ rfl ?_; intro g3 cap3 w3 hown3 hgrow hat hlt3))
          all_goals
            go_wp2_with fail
            go_roundg (n - (t + 1))
            case measure => omega
            case rel =>
              obtain ⟨hE1, hs1, hk1, hrd1⟩ := HX.out
              have hgr := ot_grown hgrow
              have ho3 : Ot (fun _ => False) W1 w3 := (Ot.refl _ W1).drew.step hgr (fun k hk _ => by simp [Value.ownBlock] at hk)
              have hg3 : g3 = W1.heap.size := by
                rcases hat with h | h
                · simp [Value.ownBlock] at h
                · simpa using h
              have hE3 := hE1.ot ho3 (fun h => h) (fun h => h) (fun h => h) (fun _ h => h.elim)
              have hsl := lt_of_block hs1
              have hobl : ob < W1.heap.size := World.block_lt_of_cell? _ _ (hE1.os t hlt).1
              have hRl1 : R < W1.heap.size := World.block_lt_of_cell? _ _ hE1.c0
              have hwW := hE1.b.size
              have hst : Ot (fun k => k = ob) w3 (w3.setCell ⟨ob, t, none⟩ (.slice (some ⟨g3, 0, none⟩) m cap3)) := (Ot.refl (fun k => k = ob) w3).setCell (p := ⟨ob, t, none⟩) (fun _ => rfl) _
              have hown4 : Own w3 w.heap.size (.slice (some ⟨g3, 0, none⟩) m cap3) (px t) := by
                unfold Own
                rw [← HM.out.1]
                simpa using hown3
              refine ⟨t + 1, fun i => if i = t then .slice (some ⟨g3, 0, none⟩) m cap3 else ov i, _, _, by go_num, by omega, Nat.le_refl _, hE3.set t _, fun i hi => (if_neg (show ¬ i = t by omega)).trans (HN.out i (by omega)), (hst.obj (ho3.obj hs1 (fun h => h)) (by omega)), hk1, fun i hi => ?_⟩
              by_cases hit : i = t
              · subst hit
                (try dsimp only)
                rw [if_pos rfl]
                refine ⟨.inr ⟨g3, cap3, by rw [HM.out.1], by rw [← HM.out.1]; exact hpos, fun j hj => hst.cellv (hown4.at.2.2.2.1 j hj) (show ¬ g3 = ob by omega)⟩, fun g' hg' => ?_⟩
                have : g' = g3 := by simpa [Value.ownBlock] using hg'.symm
                omega
              · (try dsimp only)
                rw [if_neg hit]
                obtain ⟨k1, k2⟩ := hrd1 i (by omega)
                refine ⟨?_, k2⟩
                rcases k1 with k | ⟨g', cap', k, k3, k4⟩
                · exact .inl k
                · exact .inr ⟨g', cap', k, k3, fun j hj => hst.cellv (ho3.cellv (k4 j hj) (fun h => h)) (fun h => (k2 g' (by rw [k]; rfl)).2.2.1 h)⟩
      · have hlti : ¬ (t : Int) < n := by omega
        go_wp2_with fail
        go_ret2
        exact ⟨R, rfl, nb, cn, ob, ov, hE, fun i hi => ⟨(hrd i (by omega)).1, fun g hg => ⟨((hrd i (by omega)).2 g hg).1, ((hrd i (by omega)).2 g hg).2.1⟩⟩⟩

end Go.Proofs.YbulkdjggFmt
