/-
  sort.Slice (16) at rows of uint64, with Split$1 (17) and Split$2 (18).
-/
import Derived.Test.YbulkdjggFmtR
import Derived.Test.YbulkdjggFmtPlain
import Derived.Test.YbulkdjggFmtShelf
import Derived.Shelf.GgSortFunc.Whole
import Derived.Shelf.GgSortFunc.Tiny
import Derived.Lib.RowBridge
import Derived.Lib.SortBridge
namespace Go.Proofs.YbulkdjggFmt
open Go.Shelf Go.RowKit Go.Lib Go.Sort

noncomputable def uT : TypeInfo := (Ybaf.prog.info? 25).get (by kernel_rfl)
noncomputable def uE : TypeInfo := (Ybaf.prog.info? 28).get (by kernel_rfl)
theorem uK (n : Nat) (h2 : 2 ≤ n) : Lib.swapperK n uE 11 = 5 := by
  have a : uE.hasPointers = false := by kernel_rfl
  have b : uE.bytes = 8 := by kernel_rfl
  have c : (n == 0) = false := by simp; omega
  have d : (n == 1) = false := by simp; omega
  simp [Lib.swapperK, a, b, c, d]

set_option maxHeartbeats 2000000 in
set_option maxRecDepth 100000 in
theorem lessU17 (blk off c Bs size : Nat) (W : World) (G : Nat → Int) (hs : W.cell? ⟨Bs, 0, none⟩ = some (.slice (some ⟨blk, off, none⟩) size c))
    (hc : ∀ t, t < size → W.cell? ⟨blk, off + t, none⟩ = some (.int .u64 (G t))) (i j : Nat) (hi : i < size) (hj : j < size) :
    Calls Ybaf.prog 17 #[.int .i64 i, .int .i64 j, .pointer (some ⟨Bs, 0, none⟩)] W fun e w' => e = .returned (.bool (decide (G i < G j))) ∧ ∃ q, w' = W.drewN q := by
  have ci := hc i hi
  have cj := hc j hj
  have hii : (i : Int) < size := by omega
  have hji : (j : Int) < size := by omega
  clear hc
  go_enter Ybaf.func17, Ybaf.ntmps17
  go_upto_region 1 with (fail)
  go_quiet (fail)
  go_wp2
  go_ret
  exact ⟨rfl, nq, rfl⟩

set_option maxHeartbeats 2000000 in
set_option maxRecDepth 100000 in
theorem lessU18 (blk off c Bs size : Nat) (W : World) (G : Nat → Int) (hs : W.cell? ⟨Bs, 0, none⟩ = some (.slice (some ⟨blk, off, none⟩) size c))
    (hc : ∀ t, t < size → W.cell? ⟨blk, off + t, none⟩ = some (.int .u64 (G t))) (i j : Nat) (hi : i < size) (hj : j < size) :
    Calls Ybaf.prog 18 #[.int .i64 i, .int .i64 j, .pointer (some ⟨Bs, 0, none⟩)] W fun e w' => e = .returned (.bool (decide (G i < G j))) ∧ ∃ q, w' = W.drewN q := by
  have ci := hc i hi
  have cj := hc j hj
  have hii : (i : Int) < size := by omega
  have hji : (j : Int) < size := by omega
  clear hc
  go_enter Ybaf.func18, Ybaf.ntmps18
  go_upto_region 1 with (fail)
  go_quiet (fail)
  go_wp2
  go_ret
  exact ⟨rfl, nq, rfl⟩


def putL (xs : List Nat) : Nat → List Nat → List Nat
  | _, [] => xs
  | o, y :: r => putL (xs.set o y) (o + 1) r

theorem putL_eq : ∀ (ys xs : List Nat) (o : Nat), o + ys.length ≤ xs.length → putL xs o ys = xs.take o ++ ys ++ xs.drop (o + ys.length)
  | [], xs, o, _ => by simp [putL]
  | y :: r, xs, o, h => by
    simp only [List.length_cons] at h
    rw [putL, putL_eq r (xs.set o y) (o + 1) (by simp; omega), List.drop_set_of_lt (by omega), List.take_succ_eq_append_getElem (by simp; omega), List.take_set_of_le (by omega), List.getElem_set_self]
    simp [Nat.add_assoc, Nat.add_comm 1]

theorem Own.setCells {B g n cap : Nat} : ∀ (ys : List Nat) (o : Nat) (w : World) (xs : List Nat), Own w B (.slice (some ⟨g, 0, none⟩) n cap) xs → Own (w.setCells g o (u64s ys)) B (.slice (some ⟨g, 0, none⟩) n cap) (putL xs o ys)
  | [], _, _, _, h => h
  | y :: r, o, w, xs, h => by
    show Own (World.setCells (w.setCell ⟨g, o, none⟩ (.int .u64 y)) g (o + 1) (u64s r)) B _ (putL (xs.set o y) (o + 1) r)
    exact Own.setCells r (o + 1) _ _ (h.set o y)

theorem Own.drewN {w : World} {B : Nat} {v : Value} {xs : List Nat} (h : Own w B v xs) (q : Nat) : Own (w.drewN q) B v xs := h.ot ((Ot.refl (fun _ => False) w).drewN q) (fun _ _ h => h)
theorem ot_growA (w : World) (os : Array Obj) : Ot (fun _ => False) w (grow w os) := ⟨rfl, rfl, rfl, by simp [grow], fun k hk _ => by simp [grow, Array.getElem?_append_left hk]⟩

abbrev encU (x : Nat) : Value := .int .u64 (x : Int)
def ltU (x y : Nat) : Bool := decide (x < y)
theorem ltU_swo : SWO ltU := by
  refine ⟨fun x => by simp [ltU], fun x y z h1 h2 => ?_, fun x y z h1 h2 => ?_⟩
  · simp only [ltU, decide_eq_true_eq] at h1 h2 ⊢
    omega
  · simp only [ltU, decide_eq_false_iff_not] at h1 h2 ⊢
    omega

theorem srt_short (l : List Nat) (h : l.length ≤ 1) : srt l = l := by
  match l, h with
  | [], _ => simp [srt]
  | [x], _ => simp [srt]

set_option maxHeartbeats 2000000 in
set_option maxRecDepth 100000 in
theorem sortU_at (cf bs cap B : Nat) (ao : Option Addr) (xs : List Nat) (w : World) (hcf : cf = 17 ∨ cf = 18) (hO : Own w B (.slice ao xs.length cap) xs) (hbx : w.cell? ⟨bs, 0, none⟩ = some (.slice ao xs.length cap))
    (hne : (Value.slice ao xs.length cap).ownBlock ≠ some bs) (hl : xs.length ≤ 1000000) :
    Calls Ybaf.prog 16 #[.iface 25 (.slice ao xs.length cap), .func (.func cf) #[] #[.pointer (some ⟨bs, 0, none⟩)]] w fun e w' =>
      e = .returned (.tuple #[]) ∧ Own w' B (.slice ao xs.length cap) (srt xs) ∧ Ot (fun k => (Value.slice ao xs.length cap).ownBlock = some k) w w' := by
  by_cases h2 : 2 ≤ xs.length
  · rcases hO.form with ⟨_, h0⟩ | ⟨g, cap', he, hB, hg, hc, hf⟩
    · rw [h0] at h2; simp at h2
    simp only [Value.slice.injEq] at he
    obtain ⟨rfl, _, rfl⟩ := he
    have hgb : g ≠ bs := fun h => hne (by rw [h]; rfl)
    have hsz : xs.toArray.size = xs.length := by simp
    have hH : Holds encU w g 0 xs.toArray := fun j hj => by
      rw [hsz] at hj
      rw [Nat.zero_add]
      refine ⟨?_, hf j⟩
      rw [hc j hj]
      simp [encU, List.getD_eq_getElem?_getD, hj]
    have hbl := World.block_lt_of_cell? _ _ hbx
    have hless : LessReads Ybaf.prog cf #[.pointer (some ⟨bs, 0, none⟩)] encU ltU g 0 xs.toArray.size w := by
      intro m os dk hs i j hi hj
      have e : sortWorld encU w g 0 m dk os = putRow encU (grow (Sort.ahead w m) os) g 0 dk := by
        unfold sortWorld; rw [putRow_grow _ (Sort.ahead w m) _ g 0 _ hg]
      have hHg : Holds encU (grow (Sort.ahead w m) os) g 0 xs.toArray := holds_grow _ _ _ g 0 _ hg (holds_ahead _ _ _ _ _ _ hH)
      have c0 : (sortWorld encU w g 0 m dk os).cell? ⟨bs, 0, none⟩ = some (.slice (some ⟨g, 0, none⟩) xs.toArray.size cap) := by
        rw [e, cell?_putRow_other _ _ g 0 dk _ (Or.inl (by show bs ≠ g; omega)), cell?_grow (Sort.ahead w m) _ _ (show _ < (Sort.ahead w m).heap.size from hbl), hsz]
        exact hbx
      have c1 : ∀ t, t < xs.toArray.size → (sortWorld encU w g 0 m dk os).cell? ⟨g, 0 + t, none⟩ = some (.int .u64 ((dk[t]! : Nat) : Int)) := fun t ht => by
        rw [e]; exact cell?_putRow _ _ g 0 _ dk hHg hs t (by omega)
      have hlt : ltU dk[i]! dk[j]! = decide (((dk[i]! : Nat) : Int) < (dk[j]! : Nat)) := by
        unfold ltU
        by_cases h : dk[i]! < dk[j]!
        · have h' : ((dk[i]! : Nat) : Int) < (dk[j]! : Nat) := by omega
          rw [decide_eq_true h, decide_eq_true h']
        · have h' : ¬ ((dk[i]! : Nat) : Int) < (dk[j]! : Nat) := by omega
          rw [decide_eq_false h, decide_eq_false h']
      rw [hlt]
      rcases hcf with rfl | rfl
      · exact lessU17 g 0 cap bs _ _ (fun t => ((dk[t]! : Nat) : Int)) c0 c1 i j hi hj
      · exact lessU18 g 0 cap bs _ _ (fun t => ((dk[t]! : Nat) : Int)) c0 c1 i j hi hj
    have hS := Any.sort_Slice_sorted Ybaf.laysGg6 25 28 uT uE (by kernel_rfl) (by kernel_rfl) (by kernel_rfl) (by kernel_rfl) 11 (fun _ => by kernel_rfl) (by kernel_rfl) (fun _ => by kernel_rfl) encU (fun _ => rfl) ltU ltU_swo cf _
      (by rcases hcf with rfl | rfl; exact enters_of Ybaf.func17 (by kernel_rfl) rfl; exact enters_of Ybaf.func18 (by kernel_rfl) rfl) g 0 cap xs.toArray (by rw [hsz]; exact h2) (by rw [hsz]; omega) 37 (by rw [uK _ (by rw [hsz]; exact h2)]; kernel_rfl) true
      (fun args W => run_callFunc_extern Ybaf.func37 (by kernel_rfl) (by kernel_rfl) (by kernel_rfl) (e := Extern.ReflectliteSwapper.swap true) (by kernel_rfl) args W) w hless hH hg
    rw [hsz] at hS
    change Calls Ybaf.prog 16 _ _ _ at hS
    refine hS.mono ?_
    rintro e w' ⟨rfl, d', n, os, hp, hso, rfl⟩
    have hd' : d'.size = xs.length := by rw [hp.1, hsz]
    have hd1 : d'.toList.Perm xs := by
      have := hp.2.2
      rw [show d'.extract 0 xs.length = d' by rw [← hd']; simp, show xs.toArray.extract 0 xs.length = xs.toArray by rw [← hsz]; simp] at this
      simpa using this
    have hd2 : d'.toList.Pairwise (· ≤ ·) := by
      rw [List.pairwise_iff_getElem]
      intro i j hi hj hij
      have h := hso i j (Nat.zero_le _) hij (by simp at hj; omega)
      simp at hi hj
      simp only [ltU, decide_eq_false_iff_not, getElem!_pos d' i hi, getElem!_pos d' j hj] at h
      simp only [Array.getElem_toList]
      omega
    have hd3 : d'.toList = srt xs := srt_of hd2 hd1
    have hw := Lib.sorted_world encU w g 0 n xs.toArray d'.toList os hH (by simp [hd'])
    rw [Array.toArray_toList] at hw
    rw [hw]
    have hO2 : Own ((w.drewN n).setCells g 0 (d'.toList.map encU)) B (.slice (some ⟨g, 0, none⟩) xs.length cap) (srt xs) := by
      have := Own.setCells d'.toList 0 _ _ (hO.drewN n)
      rw [putL_eq _ _ _ (by simp [hd'])] at this
      rw [show xs.take 0 ++ d'.toList ++ xs.drop (0 + d'.toList.length) = srt xs by rw [← hd3]; simp [hd']] at this
      exact this
    refine ⟨rfl, hO2.ot (ot_growA _ os) (fun _ _ h => h), ?_⟩
    exact ((((Ot.refl (fun k => (Value.slice (some ⟨g, 0, none⟩) xs.length cap).ownBlock = some k) w).drewN n).step (ot_setCells g _ 0 _) (fun i hi _ => by rw [hi]; rfl)).step (ot_growA _ os) (fun _ h _ => h.elim))
  · have hK : Lib.swapperK xs.length uE 11 = xs.length + 1 := by
      rcases Nat.eq_zero_or_pos xs.length with h | h
      · rw [h]; simp [Lib.swapperK]
      · rw [show xs.length = 1 by omega]; simp [Lib.swapperK]
    refine (Any.sort_Slice_tiny Ybaf.laysGg6 25 28 uT uE (by kernel_rfl) (by kernel_rfl) (by kernel_rfl) (by kernel_rfl) 11 (fun _ => by kernel_rfl) ao xs.length cap (by omega) (33 + xs.length) (by
      rw [hK]
      rcases Nat.eq_zero_or_pos xs.length with h | h
      · rw [h]; kernel_rfl
      · rw [show xs.length = 1 by omega]; kernel_rfl) (.func cf) #[] _ w).mono ?_
    rintro e w' ⟨rfl, os, rfl⟩
    refine ⟨rfl, ?_, (ot_growA w os).mono (fun _ h _ => h.elim)⟩
    rw [srt_short xs (by omega)]
    exact hO.ot (ot_growA _ os) (fun _ _ h => h)

end Go.Proofs.YbulkdjggFmt
