/-
  'announces.drop' (func 11) WITH THE PICKING CLOSURE: what is three minutes old or elder goes out of the inner map; the key goes once nothing is left.
-/
import Derived.Test.YbulkdjcmE
import Derived.Deep.LoopGhost
namespace Go.Proofs.Ybulkdjcm
open Go.RowKit Go.ChangeMaps

theorem hide {p : Prop} (h : p) : Hid p := h

def VO (b : Nat) : Value := .map (some b)
/-- What is kept of an inner map. -/
def kp (l : List (Nat × Int × Nat)) : List (Nat × Int × Nat) := l.filter fun x => decide (x.2.1 < 3)
/-- What is still there of l, the keys of D having come. -/
def half (D : List Nat) (l : List (Nat × Int × Nat)) : List (Nat × Int × Nat) := l.filter fun x => !(decide (x.1 ∈ D) && decide (3 ≤ x.2.1))
/-- What is still to come. -/
def still {β : Type} (D : List Nat) (lc : List (Nat × β × Nat)) : Nat := (lc.filter fun x => !decide (x.1 ∈ D)).length

theorem half_start (l : List (Nat × Int × Nat)) : half [] l = l := List.filter_eq_self.2 fun x _ => by simp
theorem half_sub (D : List Nat) (l : List (Nat × Int × Nat)) : (half D l).Sublist l := List.filter_sublist
theorem half_end {D : List Nat} {l : List (Nat × Int × Nat)} (h : ∀ x ∈ half D l, x.1 ∈ D) : half D l = kp l := by
  unfold half kp at *
  apply List.filter_congr
  intro x hx
  by_cases h3 : 3 ≤ x.2.1
  · by_cases hd : x.1 ∈ D
    · simp [hd, h3]
    · have := h x (List.mem_filter.2 ⟨hx, by simp [hd]⟩)
      exact (hd this).elim
  · have h4 : x.2.1 < 3 := by omega
    simp [h3, h4]
theorem half_old {D : List Nat} {l : List (Nat × Int × Nat)} {c : Nat} (hw : WF l c) {k : Nat} {v : Int} {s : Nat} (hx : (k, v, s) ∈ half D l) (h3 : 3 ≤ v) : del k (half D l) = half (k :: D) l := by
  rw [del_filter (hw.sub (half_sub D l)).keys]
  unfold half
  rw [List.filter_filter]
  apply List.filter_congr
  intro x hxl
  by_cases he : x.1 = k
  · have : x = (k, v, s) := hw.key_eq hxl (List.mem_filter.1 hx).1 he
    subst this
    simp [h3]
  · simp [he]
theorem half_new {D : List Nat} {l : List (Nat × Int × Nat)} {c : Nat} (hw : WF l c) {k : Nat} {v : Int} {s : Nat} (hx : (k, v, s) ∈ half D l) (h3 : ¬ 3 ≤ v) : half D l = half (k :: D) l := by
  unfold half
  apply List.filter_congr
  intro x hxl
  by_cases he : x.1 = k
  · have : x = (k, v, s) := hw.key_eq hxl (List.mem_filter.1 hx).1 he
    subst this
    simp [h3]
  · simp [he]
theorem filter_lt {α : Type} {p q : α → Bool} : ∀ {l : List α}, (∀ x ∈ l, q x = true → p x = true) → (∃ x ∈ l, p x = true ∧ q x = false) → (l.filter q).length < (l.filter p).length
  | [], _, h => by obtain ⟨x, hx, _⟩ := h; cases hx
  | a :: l, h1, h2 => by
    have hle : ∀ (l : List α), (∀ x ∈ l, q x = true → p x = true) → (l.filter q).length ≤ (l.filter p).length := by
      intro l
      induction l with
      | nil => intro _; simp
      | cons b l ih =>
        intro h
        have := ih (fun x hx => h x (by simp [hx]))
        simp only [List.filter_cons]
        cases hq : q b with
        | true => simp [h b (by simp) hq]; exact this
        | false => cases p b <;> simp <;> omega
    simp only [List.filter_cons]
    obtain ⟨x, hx, hp, hq⟩ := h2
    rcases List.mem_cons.1 hx with rfl | hx'
    · simp [hp, hq]
      have := hle l (fun x hx => h1 x (by simp [hx]))
      omega
    · have := filter_lt (fun x hx => h1 x (by simp [hx])) ⟨x, hx', hp, hq⟩
      cases hq' : q a with
      | true => simp [h1 a (by simp) hq']; exact this
      | false => cases p a <;> simp <;> omega
theorem still_lt {β : Type} {D : List Nat} {lc lc' : List (Nat × β × Nat)} {k : Nat} {v : β} {s : Nat} (hx : (k, v, s) ∈ lc) (hd : k ∉ D) (hs : lc'.Sublist lc) : still (k :: D) lc' < still D lc := by
  unfold still
  refine Nat.lt_of_le_of_lt (hs.filter _).length_le (filter_lt (fun x _ h => ?_) ⟨_, hx, ?_, ?_⟩)
  · simp at h ⊢
    exact h.2
  · simp [hd]
  · simp

theorem ne_of_cell {w : World} {a : Addr} {v : Value} {b : Nat} {es : Array MapEntry} {c : Nat} (h : w.cell? a = some v) (hb : w.heap[b]? = some (.map es c)) : a.block ≠ b := by
  intro he
  subst he
  simp [World.cell?, hb] at h

set_option maxHeartbeats 1000000 in
set_option maxRecDepth 100000 in
theorem drop_any (n : Int) (i bP bi ck c bn ba : Nat) (O : List (Nat × Nat × Nat)) (l : List (Nat × Int × Nat)) (w : World)
    (hi : i < 8) (hO : ∀ e ∈ O, e.1 < 8) (hl : ∀ e ∈ l, e.1 < 65536) (hago : ∀ e ∈ l, -32768 ≤ e.2.1 ∧ e.2.1 ≤ 32767)
    (hP : w.heap[bP]? = some (mobj sk VO O ck)) (hk : lk i O = some bi) (hI : w.heap[bi]? = some (mobj pk (tv n) l c)) (hwf : WF l c)
    (hn : w.cell? ⟨bn, 0, none⟩ = some (.int .i64 n)) (ha : w.cell? ⟨ba, 0, none⟩ = some (.map (some bi))) (hne : bP ≠ bi) :
    Calls Yba.prog 11 #[.map (some bP), .string (nm i), .func (.func 10) #[] #[.pointer (some ⟨bn, 0, none⟩), .pointer (some ⟨ba, 0, none⟩)]] w fun e w' =>
      e = .returned (.bool (kp l).isEmpty) ∧ w'.heap[bi]? = some (mobj pk (tv n) (kp l) c) ∧ w'.heap[bP]? = some (mobj sk VO (if kp l = [] then del i O else O) ck) ∧ Ot (fun k => k = bi ∨ k = bP) w w' := by
  have hlk := run_lookup_mine (P := Yba.prog) Yba.underlying25 keys9 hi hO hP (.map none) (by kernel_rfl) false
  rw [hk] at hlk
  simp only [Bool.false_eq_true, if_false, Option.map_some, Option.getD_some, VO, sk] at hlk
  go_enter Yba.func11, Yba.ntmps11
  go_wp2_with (first
    | (at_range; refine wpList_range_mine _ rfl _ 28 43 23 rfl Yba.underlying28 rfl hI ?_)
    | fail)
  go_frame
  have hbi := lt_of_block hI
  have hbP := lt_of_block hP
  have hn0 := ne_of_cell hn hI
  have ha0 := ne_of_cell ha hI
  have it0 := It.start hI hwf
  have HC := hide (And.intro hn (And.intro ha (And.intro hP hI)))
  have HF := hide (And.intro hO (And.intro hl (And.intro hago hwf)))
  clear hn ha hP hI hlk hO hl hago hwf
  go_loopg [8] (still [] (half [] l)) (fun kx _ wr => ∃ D, It wr pk (tv n) l (half D l) bi w.heap.size c D ∧ Ot (fun k => k = bi) w wr ∧ still D (half D l) ≤ kx)
  case atStart => exact ⟨[], by rw [half_start]; exact it0, (Ot.refl _ _).alloc _, Nat.le_refl _⟩
  case round =>
    obtain ⟨D, hit, hot, hkx⟩ := hrel
    clear it0
    have hbr : bi ≠ w.heap.size := by omega
    go_wp2_with (first
      | (at_next; refine wpList_next_mine _ rfl _ rfl rfl hit hbr ?_ ?_)
      | fail)
    · intro hdone
      have he : half D l = kp l := half_end (fun x hx => hdone x.1 x.2.1 x.2.2 hx)
      have hm := hit.map
      rw [he] at hm
      have hmb := hide hm
      have hp : wr.heap[bP]? = some (mobj sk VO O ck) := hot.obj HC.out.2.2.1 hne
      have hdel := fun ty => run_delete_mine (P := Yba.prog) Yba.underlying25 keys9 hi HF.out.1 hp ty
      unfold sk at hdel
      have hot2 : Ot (fun k => k = bi ∨ k = bP) w wr := hot.mono (fun _ h _ => .inl h)
      have HP := hide (And.intro hp (And.intro hdel (And.intro hot hot2)))
      clear hp hdel hot hot2 hit hdone
      have hlen := run_len_mine (P := Yba.prog) (ty := 3) Yba.underlying28 hm
      clear hm
      cases hkp : kp l with
      | nil =>
        rw [hkp] at hlen hmb
        simp only [List.length_nil] at hlen
        go_wp2_with (first
          | (at_delete; refine wpList_delete_run _ rfl _ _ _ _ rfl _ (HP.out.2.1 _) ?_)
          | fail)
        go_ret
        refine ⟨rfl, ?_, ?_, HP.out.2.2.2.setBlock _ _ (fun _ => .inr rfl)⟩
        · rw [heap_setBlock_ne _ _ _ (Ne.symm hne)]
          exact hmb.out
        · exact heap_setBlock_eq _ _ _ (lt_of_block HP.out.1)
      | cons x r =>
        rw [hkp] at hlen hmb
        have hpos : (0 : Int) < ((x :: r).length : Nat) := by simp
        generalize (x :: r).length = A at hlen hpos
        go_wp2_with fail
        all_goals
          go_ret
          exact ⟨rfl, hmb.out, HP.out.1, HP.out.2.2.2⟩
    · intro k v s w1 hx hd ho1 hs1 it1 hen
      have hlt1 : bi < w1.heap.size := lt_of_block it1.map
      have hot1 : Ot (fun k => k = bi) w w1 := hot.step ho1 (fun j hj hl => by omega)
      have hn1 := hot1.cellv HC.out.1 hn0
      have ha1 := hot1.cellv HC.out.2.1 ha0
      have hxl : (k, v, s) ∈ l := (half_sub D l).subset hx
      have hk1 := HF.out.2.1 _ hxl
      have hv1 := HF.out.2.2.1 _ hxl
      have w2o : Ot (fun k => k = bi) w1 (w1.alloc (.cells #[.int .u64 0, .int .u64 0, .pointer none, .int .u16 k] 43)) := (Ot.refl _ _).alloc _
      have H1 := hide (And.intro hot1 (And.intro it1 (And.intro hn1 (And.intro ha1 (And.intro hx hxl)))))
      have hwh := which_any n v k bn ba bi c (half D l) (w1.alloc (.cells #[.int .u64 0, .int .u64 0, .pointer none, .int .u16 k] 43)) hk1 (fun e he => HF.out.2.1 e ((half_sub D l).subset he))
        (w2o.cellv hn1 hn0) (w2o.cellv ha1 ha0) ((Ot.refl (fun k => k = bi + 1) w1).alloc _ |>.obj it1.map (by omega)) (lk_mem (HF.out.2.2.2.sub (half_sub D l)).keys hx) hv1.1 hv1.2
      clear hot1 it1 hn1 ha1 hx hxl ho1 hit hot w2o
      unfold pk at hen hwh
      have HW := hide hwh
      have HS := hide hs1
      clear hwh hs1
      have hkin : ∀ e ∈ half D l, e.1 < 65536 := fun e he => HF.out.2.1 e ((half_sub D l).subset he)
      have HK := hide (And.intro hkin hk1)
      clear hkin hk1
      by_cases h3 : 3 ≤ v
      · rw [decide_eq_true h3] at HW
        go_wp2_with (first
          | (go_at_call 10; refine HW.out.mono ?_; rintro e w' ⟨rfl, hb⟩
             have c0 : w'.cell? ⟨w1.heap.size, 0, none⟩ = some (.int .u64 0) := (hb.cell (by simp)).trans (by simp)
             have c1 : w'.cell? ⟨w1.heap.size, 1, none⟩ = some (.int .u64 0) := (hb.cell (by simp)).trans (by simp)
             have c2 : w'.cell? ⟨w1.heap.size, 2, none⟩ = some (.pointer none) := (hb.cell (by simp)).trans (by simp)
             have c3 : w'.cell? ⟨w1.heap.size, 3, none⟩ = some (.int .u16 k) := (hb.cell (by simp)).trans (by simp)
             have o2 : Ot (fun _ => False) w1 w' := ((Ot.refl _ _).alloc _).step (Ot.of_below (fun _ => False) hb) (fun _ h _ => h.elim)
             have it2 := H1.out.2.1.kept o2 (fun h => h) (fun h => h)
             have hm2 := hide (And.intro o2 it2)
             clear o2 it2 hb)
          | (at_delete; refine wpList_delete_run _ rfl _ _ _ _ rfl _ (run_delete_mine (P := Yba.prog) Yba.underlying28 keys43 HK.out.2 HK.out.1 hm2.out.2.map _) ?_)
          | fail)
        go_roundg (still (k :: D) (half (k :: D) l))
        case measure =>
          have h1 := half_old HF.out.2.2.2 H1.out.2.2.2.2.1 h3
          have h2 : (half (k :: D) l).Sublist (half D l) := by rw [← h1, del_filter (HF.out.2.2.2.sub (half_sub D l)).keys]; exact List.filter_sublist
          exact Nat.lt_of_lt_of_le (still_lt H1.out.2.2.2.2.1 hd h2) hkx
        case rel =>
          have h1 := half_old HF.out.2.2.2 H1.out.2.2.2.2.1 h3
          refine ⟨k :: D, ?_, ?_, Nat.le_refl _⟩
          · rw [← h1]
            exact hm2.out.2.turn hbr (by rw [h1]; exact half_sub _ _)
          · exact (H1.out.1.step hm2.out.1 (fun _ hj _ => hj.elim)).setBlock _ _ (fun _ => rfl)
      · rw [decide_eq_false h3] at HW
        go_wp2_with (first
          | (go_at_call 10; refine HW.out.mono ?_; rintro e w' ⟨rfl, hb⟩
             have o2 : Ot (fun _ => False) w1 w' := ((Ot.refl _ _).alloc _).step (Ot.of_below (fun _ => False) hb) (fun _ h _ => h.elim)
             have it2 := H1.out.2.1.kept o2 (fun h => h) (fun h => h)
             have hm2 := hide (And.intro o2 it2)
             clear o2 it2 hb)
          | fail)
        go_roundg (still (k :: D) (half (k :: D) l))
        case measure =>
          have h1 := half_new HF.out.2.2.2 H1.out.2.2.2.2.1 (by omega)
          rw [← h1]
          exact Nat.lt_of_lt_of_le (still_lt H1.out.2.2.2.2.1 hd (List.Sublist.refl _)) hkx
        case rel =>
          have h1 := half_new HF.out.2.2.2 H1.out.2.2.2.2.1 (by omega)
          refine ⟨k :: D, ?_, ?_, Nat.le_refl _⟩
          · rw [← h1]
            exact hm2.out.2
          · exact H1.out.1.step hm2.out.1 (fun _ hj _ => hj.elim)

end Go.Proofs.Ybulkdjcm
