/-
  'core.expireNames' (func 6).
-/
import Derived.Test.YbulkdjcmH
namespace Go.Proofs.Ybulkdjcm
open Go.RowKit Go.ChangeMaps Go.Sort

theorem It.moved {β : Type} {w w' : World} {K : Nat → Value} {V : β → Value} {l lc lc' : List (Nat × β × Nat)} {b r c : Nat} {D : List Nat} (h : It w K V l lc b r c D) {S : Nat → Prop} (ho : Ot S w w') (hr : ¬ S r)
    (hm : w'.heap[b]? = some (mobj K V lc' c)) (hs : lc'.Sublist l) : It w' K V l lc' b r c D := by
  obtain ⟨seen, c0, h1, h2, h3⟩ := h.iter
  exact ⟨hm, ⟨seen, c0, ho.obj h1 hr, h2, h3⟩, hs, h.wf⟩

/-- What is there of the outer map, the names of D having come. -/
def Oc (I : Nat → List (Nat × Int × Nat)) (D : List Nat) (O : List (Nat × Nat × Nat)) : List (Nat × Nat × Nat) := O.filter fun e => !(decide (e.1 ∈ D) && (kp (I e.1)).isEmpty)
def Nc (I : Nat → List (Nat × Int × Nat)) (D : List Nat) (NS : List Nat) : List Nat := NS.filter fun i => !(decide (i ∈ D) && (kp (I i)).isEmpty)

section
variable {I : Nat → List (Nat × Int × Nat)} {D : List Nat} {O : List (Nat × Nat × Nat)} {NS : List Nat} {ck k bi s : Nat}
theorem Oc_start : Oc I [] O = O := List.filter_eq_self.2 fun x _ => by simp
theorem Nc_start : Nc I [] NS = NS := List.filter_eq_self.2 fun x _ => by simp
theorem Oc_sub : (Oc I D O).Sublist O := List.filter_sublist
theorem Nc_sub : (Nc I D NS).Sublist NS := List.filter_sublist
theorem Oc_gone (hw : WF O ck) (h : kp (I k) = []) : del k (Oc I D O) = Oc I (k :: D) O := by
  rw [del_filter (hw.sub Oc_sub).keys]
  unfold Oc
  rw [List.filter_filter]
  apply List.filter_congr
  intro x _
  by_cases he : x.1 = k
  · simp [he, h]
  · simp [he]
theorem Oc_stays (h : kp (I k) ≠ []) : Oc I D O = Oc I (k :: D) O := by
  unfold Oc
  apply List.filter_congr
  intro x _
  by_cases he : x.1 = k
  · have : (kp (I k)).isEmpty = false := by cases hk : kp (I k) with | nil => exact (h hk).elim | cons _ _ => rfl
    simp [he, this]
  · simp [he]
theorem Nc_stays (h : kp (I k) ≠ []) : Nc I D NS = Nc I (k :: D) NS := by
  unfold Nc
  apply List.filter_congr
  intro x _
  by_cases he : x = k
  · have : (kp (I k)).isEmpty = false := by cases hk : kp (I k) with | nil => exact (h hk).elim | cons _ _ => rfl
    simp [he, this]
  · simp [he]
theorem Asc.sub (h : Asc NS) {M : List Nat} (hs : M.Sublist NS) : Asc M := ⟨fun x hx => h.low x (hs.subset hx), h.asc.sublist hs, Nat.le_trans hs.length_le h.short⟩
theorem Asc.nodup (h : Asc NS) : NS.Nodup := h.asc.imp (fun h => Nat.ne_of_lt h)
theorem Nc_gone (hA : Asc NS) {q : Nat} (hq : q < (Nc I D NS).length) (hk : (Nc I D NS)[q] = k) (h : kp (I k) = []) : (Nc I D NS).eraseIdx q = Nc I (k :: D) NS := by
  rw [erase_filter (hA.sub Nc_sub).nodup hq, hk]
  unfold Nc
  rw [List.filter_filter]
  apply List.filter_congr
  intro x _
  by_cases he : x = k
  · simp [he, h]
  · simp [he]
end

/-- The inner maps: each in a block of its own. -/
structure Inn (w : World) (n : Int) (O : List (Nat × Nat × Nat)) (I : Nat → List (Nat × Int × Nat)) (cI : Nat → Nat) : Prop where
  map : ∀ e ∈ O, w.heap[e.2.1]? = some (mobj pk (tv n) (I e.1) (cI e.1))
  wf : ∀ e ∈ O, WF (I e.1) (cI e.1)
  low : ∀ e ∈ O, ∀ x ∈ I e.1, x.1 < 65536
  ago : ∀ e ∈ O, ∀ x ∈ I e.1, -32768 ≤ x.2.1 ∧ x.2.1 ≤ 32767
  inj : ∀ e ∈ O, ∀ e' ∈ O, e.2.1 = e'.2.1 → e = e'

/-- The blocks that the sweep may turn. -/
def Sw (O : List (Nat × Nat × Nat)) (bP bc g : Nat) (k : Nat) : Prop := (∃ e ∈ O, k = e.2.1) ∨ k = bP ∨ k = bc ∨ k = g

/-- The sweep is on: the names of D have come. -/
structure Ex (w wr : World) (n : Int) (bc bP ck g cap : Nat) (O : List (Nat × Nat × Nat)) (I : Nat → List (Nat × Int × Nat)) (cI : Nat → Nat) (NS : List Nat) (D : List Nat) : Prop where
  it : It wr sk VO O (Oc I D O) bP (w.heap.size + 1) ck D
  inn : ∀ e ∈ O, wr.heap[e.2.1]? = some (mobj pk (tv n) (if e.1 ∈ D then kp (I e.1) else I e.1) (cI e.1))
  pubs : wr.cell? ⟨bc, 155, none⟩ = some (.map (some bP))
  names : Nst wr bc g cap (Nc I D NS)
  now : wr.cell? ⟨w.heap.size, 0, none⟩ = some (.int .i64 n)
  ot : Ot (Sw O bP bc g) w wr
  dom : ∀ d ∈ D, d ∈ O.map (·.1)

theorem Ex.step {w wr w1 : World} {n : Int} {bc bP ck g cap : Nat} {O : List (Nat × Nat × Nat)} {I : Nat → List (Nat × Int × Nat)} {cI : Nat → Nat} {NS : List Nat} {D : List Nat} {k bi s : Nat}
    (h : Ex w wr n bc bP ck g cap O I cI NS D) (hA : Asc NS) (hO : ∀ e ∈ O, e.1 ∈ NS) (hW : WF O ck) (hI : Inn w n O I cI) (hbP : bP < w.heap.size) (hbc : bc < w.heap.size) (hgl : g < w.heap.size) (hg : g ≠ bP) (hgi : ∀ e ∈ O, g ≠ e.2.1) (hpi : ∀ e ∈ O, bP ≠ e.2.1)
    (hm : (k, bi, s) ∈ Oc I D O) (hd : k ∉ D) (ho1 : Ot (fun i => i = w.heap.size + 1) wr w1) (it1 : It w1 sk VO O (Oc I D O) bP (w.heap.size + 1) ck (k :: D)) :
    Calls Yba.prog 9 #[.pointer (some ⟨bc, 0, none⟩), .string (nm k), .func (.func 10) #[] #[.pointer (some ⟨w.heap.size, 0, none⟩), .pointer (some ⟨w1.heap.size, 0, none⟩)]] (w1.alloc (.cells #[.map (some bi)] 28)) fun e w' =>
      e = .returned (.tuple #[]) ∧ Ex w w' n bc bP ck g cap O I cI NS (k :: D) := by
  have hmO : (k, bi, s) ∈ O := Oc_sub.subset hm
  have hbi : bi < w.heap.size := lt_of_block (hI.map _ hmO)
  have hkN : k ∈ Nc I D NS := by
    unfold Nc
    exact List.mem_filter.2 ⟨hO _ hmO, by simp [hd]⟩
  obtain ⟨q, hq, hqk⟩ := List.getElem_of_mem hkN
  have o2 : Ot (fun i => i = w.heap.size + 1) wr (w1.alloc (.cells #[.map (some bi)] 28)) := ho1.alloc _
  have oa : Ot (fun _ => False) w1 (w1.alloc (.cells #[.map (some bi)] 28)) := (Ot.refl _ _).alloc _
  have hin := h.inn _ hmO
  simp only [hd, if_false] at hin
  have hrs := h.ot.size
  have h1s := ho1.size
  have hc := names_any n q k bc bP bi ck (cI k) w.heap.size w1.heap.size g cap (Oc I D O) (I k) (Nc I D NS) (w1.alloc (.cells #[.map (some bi)] 28)) hq hqk (hA.sub Nc_sub)
    (fun e he => hA.low _ (hO e (Oc_sub.subset he))) (hI.low _ hmO) (hI.ago _ hmO) (oa.obj it1.map (fun h => h)) (lk_mem (hW.sub Oc_sub).keys hm) (o2.obj hin (by omega)) (hI.wf _ hmO)
    (o2.cellv h.now (by simp)) (by simp) (hpi _ hmO) (o2.cellv h.pubs (by simp; omega)) (h.names.kept o2 (by omega) (by omega)) hg (hgi _ hmO)
  refine hc.mono ?_
  rintro e w' ⟨rfl, m1, m2, p1, n1, o3⟩
  have hcb : ∀ e ∈ O, bc ≠ e.2.1 := fun e he => ne_of_cell h.pubs (h.inn e he)
  refine ⟨rfl, ?_, fun e he => ?_, p1, ?_, o3.cellv (o2.cellv h.now (by simp)) (by simp; omega), ?_, fun d hdd => ?_⟩
  · have hO2 : (if kp (I k) = [] then del k (Oc I D O) else Oc I D O) = Oc I (k :: D) O := by
      by_cases hk : kp (I k) = []
      · rw [if_pos hk, Oc_gone hW hk]
      · rw [if_neg hk, Oc_stays hk]
    rw [hO2] at m2
    exact it1.moved ((Ot.mono oa (fun _ h _ => h.elim)).trans o3) (by omega) m2 Oc_sub
  · by_cases hek : e.1 = k
    · have : e = (k, bi, s) := hW.key_eq he hmO hek
      subst this
      simp only [List.mem_cons, true_or, if_true]
      exact m1
    · have h2 : e.1 ∈ k :: D ↔ e.1 ∈ D := by simp [hek]
      simp only [h2]
      have hne : e.2.1 ≠ bi := fun h2 => hek (by have := hI.inj e he (k, bi, s) hmO h2; rw [this])
      have hel : e.2.1 < w.heap.size := lt_of_block (hI.map e he)
      exact o3.obj (o2.obj (h.inn e he) (by omega)) (by
        have := hcb e he; have := hpi e he; have := hgi e he
        omega)
  · have hN2 : (if kp (I k) = [] then (Nc I D NS).eraseIdx q else Nc I D NS) = Nc I (k :: D) NS := by
      by_cases hk : kp (I k) = []
      · rw [if_pos hk, Nc_gone hA hq hqk hk]
      · rw [if_neg hk, Nc_stays hk]
    rw [hN2] at n1
    exact n1
  · refine (h.ot.step o2 (fun i hi hl => by omega)).step o3 (fun i hi hl => ?_)
    unfold Sw
    rcases hi with h3 | h3
    · exact .inl ⟨_, hmO, h3⟩
    · exact .inr h3
  · rcases List.mem_cons.1 hdd with h3 | h3
    · rw [h3]
      exact List.mem_map.2 ⟨_, hmO, rfl⟩
    · exact h.dom d h3

theorem Ex.done {w wr : World} {n : Int} {bc bP ck g cap : Nat} {O : List (Nat × Nat × Nat)} {I : Nat → List (Nat × Int × Nat)} {cI : Nat → Nat} {NS : List Nat} {D : List Nat}
    (h : Ex w wr n bc bP ck g cap O I cI NS D) (hd : ∀ x ∈ Oc I D O, x.1 ∈ D) :
    wr.heap[bP]? = some (mobj sk VO (O.filter fun e => !(kp (I e.1)).isEmpty) ck) ∧ (∀ e ∈ O, wr.heap[e.2.1]? = some (mobj pk (tv n) (kp (I e.1)) (cI e.1))) ∧
      wr.cell? ⟨bc, 155, none⟩ = some (.map (some bP)) ∧ Nst wr bc g cap (NS.filter fun i => !(decide (i ∈ O.map (·.1)) && (kp (I i)).isEmpty)) ∧ Ot (Sw O bP bc g) w wr := by
  have hall : ∀ e ∈ O, e.1 ∈ D := fun e he => by
    by_cases h1 : e.1 ∈ D
    · exact h1
    · exact hd e (List.mem_filter.2 ⟨he, by simp [h1]⟩)
  have e1 : Oc I D O = O.filter fun e => !(kp (I e.1)).isEmpty := List.filter_congr fun x hx => by simp [hall x hx]
  have e2 : Nc I D NS = NS.filter fun i => !(decide (i ∈ O.map (·.1)) && (kp (I i)).isEmpty) := List.filter_congr fun i _ => by
    have : i ∈ D ↔ i ∈ O.map (·.1) := ⟨h.dom i, fun hi => by
      obtain ⟨e, he, rfl⟩ := List.mem_map.1 hi
      exact hall e he⟩
    simp only [this]
  refine ⟨by rw [← e1]; exact h.it.map, fun e he => ?_, h.pubs, by rw [← e2]; exact h.names, h.ot⟩
  have := h.inn e he
  simp only [hall e he, if_true] at this
  exact this

set_option maxHeartbeats 1000000 in
set_option maxRecDepth 100000 in
theorem expire_any (n : Int) (bc bP ck g cap : Nat) (O : List (Nat × Nat × Nat)) (I : Nat → List (Nat × Int × Nat)) (cI : Nat → Nat) (NS : List Nat) (w : World)
    (hA : Asc NS) (hO : ∀ e ∈ O, e.1 ∈ NS) (hW : WF O ck) (hP : w.heap[bP]? = some (mobj sk VO O ck)) (hI : Inn w n O I cI)
    (hcP : w.cell? ⟨bc, 155, none⟩ = some (.map (some bP))) (hN : Nst w bc g cap NS) (hgl : g < w.heap.size) (hg : g ≠ bP) (hgi : ∀ e ∈ O, g ≠ e.2.1) (hpi : ∀ e ∈ O, bP ≠ e.2.1) :
    Calls Yba.prog 6 #[.pointer (some ⟨bc, 0, none⟩), .int .i64 n] w fun e w' =>
      e = .returned (.tuple #[]) ∧ w'.heap[bP]? = some (mobj sk VO (O.filter fun e => !(kp (I e.1)).isEmpty) ck) ∧ (∀ e ∈ O, w'.heap[e.2.1]? = some (mobj pk (tv n) (kp (I e.1)) (cI e.1))) ∧
        w'.cell? ⟨bc, 155, none⟩ = some (.map (some bP)) ∧ Nst w' bc g cap (NS.filter fun i => !(decide (i ∈ O.map (·.1)) && (kp (I i)).isEmpty)) ∧ Ot (Sw O bP bc g) w w' := by
  have hbP := lt_of_block hP
  have hbc : bc < w.heap.size := World.block_lt_of_cell? _ _ hcP
  have o1 : Ot (fun _ => False) w (w.alloc (.cells #[.int .i64 n] 23)) := (Ot.refl _ _).alloc _
  have hc1 := o1.cellv hcP (fun h => h)
  have hP1 := o1.obj hP (fun h => h)
  have H0 := hide (And.intro hcP (And.intro hP (And.intro hN (And.intro hI hW))))
  have HF := hide (And.intro hA (And.intro hO (And.intro hgi hpi)))
  clear hcP hP hN hI hW hA hO hgi hpi o1
  have hn1 : (w.alloc (.cells #[.int .i64 n] 23)).cell? ⟨w.heap.size, 0, none⟩ = some (.int .i64 n) := by simp
  have hs1 : (w.alloc (.cells #[.int .i64 n] 23)).heap.size = w.heap.size + 1 := by simp
  go_enter Yba.func6, Yba.ntmps6
  go_wp2_with (first
    | (at_range; refine wpList_range_mine _ rfl _ 25 9 28 rfl Yba.underlying25 rfl hP1 ?_)
    | fail)
  go_frame
  have e0 : Ex w ((w.alloc (.cells #[.int .i64 n] 23)).alloc (.mapIter (some bP) ck #[] ck)) n bc bP ck g cap O I cI NS [] := by
    have oo : Ot (fun _ => False) w ((w.alloc (.cells #[.int .i64 n] 23)).alloc (.mapIter (some bP) ck #[] ck)) := ((Ot.refl _ _).alloc _).alloc _
    have it0 := It.start hP1 H0.out.2.2.2.2
    rw [hs1] at it0
    refine ⟨by rw [Oc_start]; exact it0, fun e he => ?_, oo.cellv H0.out.1 (fun h => h), ?_, ?_, oo.mono (fun _ h _ => h.elim), fun _ h => by cases h⟩
    · simp only [List.not_mem_nil, if_false]
      exact oo.obj (H0.out.2.2.2.1.map e he) (fun h => h)
    · rw [Nc_start]
      exact H0.out.2.2.1.kept oo (fun h => h) (fun h => h)
    · exact ((below_alloc (w.alloc (.cells #[.int .i64 n] 23)) _).cell (p := ⟨w.heap.size, 0, none⟩) (by rw [hs1]; simp)).trans hn1
  have HE := hide e0
  rw [hs1]
  clear hP1 hc1 hn1 hs1 e0
  go_loopg [5] (still [] (Oc I [] O)) (fun kx _ wr => ∃ D, Ex w wr n bc bP ck g cap O I cI NS D ∧ still D (Oc I D O) ≤ kx)
  case atStart => exact ⟨[], HE.out, Nat.le_refl _⟩
  case round =>
    obtain ⟨D, hx, hkx⟩ := hrel
    clear HE
    have hbr : bP ≠ w.heap.size + 1 := by omega
    have hit := hx.it
    go_wp2_with (first
      | (at_next; refine wpList_next_mine _ rfl _ rfl rfl hit hbr ?_ ?_)
      | fail)
    · intro hdone
      have HX := hide hx
      have HD := hide hdone
      clear hx hit hdone
      go_wp2
      go_end0
      exact ⟨rfl, HX.out.done (fun x hx => HD.out x.1 x.2.1 x.2.2 hx)⟩
    · intro k bi s w1 hm hd ho1 hs1 it1 hen
      have HX := hide hx
      clear hx hit
      unfold sk VO at hen
      have HM := hide (And.intro hm (And.intro hd (And.intro ho1 it1)))
      clear hm hd ho1 it1
      have HS := hide hs1
      clear hs1
      have hst := HX.out.step HF.out.1 HF.out.2.1 H0.out.2.2.2.2 H0.out.2.2.2.1 hbP hbc hgl hg HF.out.2.2.1 HF.out.2.2.2 HM.out.1 HM.out.2.1 HM.out.2.2.1 HM.out.2.2.2
      have HT := hide hst
      clear hst
      go_wp2_with (first
        | (go_at_call 9; refine HT.out.mono ?_; rintro e w' ⟨rfl, hx'⟩; have HX2 := hide hx'; clear hx')
        | fail)
      go_roundg (still (k :: D) (Oc I (k :: D) O))
      case measure =>
        have hsub : (Oc I (k :: D) O).Sublist (Oc I D O) := by
          by_cases hk : kp (I k) = []
          · rw [← Oc_gone H0.out.2.2.2.2 hk, del_filter (H0.out.2.2.2.2.sub Oc_sub).keys]
            exact List.filter_sublist
          · rw [← Oc_stays hk]
            exact List.Sublist.refl _
        exact Nat.lt_of_lt_of_le (still_lt HM.out.1 HM.out.2.1 hsub) hkx
      case rel => exact ⟨k :: D, HX2.out, Nat.le_refl _⟩

end Go.Proofs.Ybulkdjcm
