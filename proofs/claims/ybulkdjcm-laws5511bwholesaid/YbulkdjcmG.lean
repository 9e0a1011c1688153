/-
  THE NAMES' SLICE: slices.BinarySearch (func 12) at a name that is there, slices.Delete (func 13) of one name, slices.Equal (func 7).
-/
import Derived.Test.YbulkdjcmF
import Derived.Test.YbulkdjcmShelf
namespace Go.Proofs.Ybulkdjcm
open Go.RowKit Go.ChangeMaps Go.Sort

/-- The first cells of block g hold the names of NS. -/
def NR (w : World) (g : Nat) (NS : List Nat) : Prop := Holds Value.string w g 0 (NS.map nm).toArray

theorem nm_less (a b : Nat) (ha : a < 8) (hb : b < 8) : Op.bytesLess (nm a).toList (nm b).toList = decide (a < b) := by
  rw [ByteArray.toList_eq, ByteArray.toList_eq]
  have h : ∀ a, a < 8 → ∀ b, b < 8 → Op.bytesLess (nm a).data.toList (nm b).data.toList = decide (a < b) := by decide
  exact h a ha b hb

theorem sorted_at {NS : List Nat} (hs : NS.Pairwise (· < ·)) {q m : Nat} (hq : q < NS.length) (hm : m < NS.length) : NS[m] < NS[q] ↔ m < q := by
  rw [List.pairwise_iff_getElem] at hs
  constructor
  · intro h
    rcases Nat.lt_trichotomy m q with h1 | h1 | h1
    · exact h1
    · subst h1; omega
    · have := hs q m hq hm h1; omega
  · exact fun h => hs m q hm hq h

theorem search_any (g cap q : Nat) (NS : List Nat) (w : World) (hq : q < NS.length) (h8 : ∀ x ∈ NS, x < 8) (hs : NS.Pairwise (· < ·)) (hlen : NS.length ≤ 8) (hc : NR w g NS) :
    Calls Yba.prog 12 #[.slice (some ⟨g, 0, none⟩) NS.length cap, .string (nm NS[q])] w fun e w' => e = .returned (.tuple #[.int .i64 q, .bool true]) ∧ ∃ k, w' = w.drewN k := by
  have hcell : ∀ j, j < NS.length → w.cell? ⟨g, 0 + j, none⟩ = some (.string (nm (NS.getD j 7))) := fun j hj => by
    rw [(hc j (by simpa using hj)).1]
    simp [hj]
  have hx : NS[q] < 8 := h8 _ (List.getElem_mem hq)
  have hbs : Lib.bsGo (fun t => Op.bytesLess (nm (NS.getD t 7)).toList (nm NS[q]).toList) NS.length 0 NS.length = q := by
    refine Lib.bsGo_spec _ q (fun t ht => ?_) (fun t ht => ?_) _ _ _ (by omega) (Nat.zero_le _) (by omega)
    · have htl : t < NS.length := by omega
      rw [List.getD_eq_getElem?_getD, List.getElem?_eq_getElem htl, Option.getD_some, nm_less _ _ (h8 _ (List.getElem_mem htl)) hx]
      simpa using (sorted_at hs hq htl).2 ht
    · by_cases htl : t < NS.length
      · rw [List.getD_eq_getElem?_getD, List.getElem?_eq_getElem htl, Option.getD_some, nm_less _ _ (h8 _ (List.getElem_mem htl)) hx]
        have := (sorted_at hs hq htl)
        simp
        omega
      · rw [List.getD_eq_getElem?_getD, List.getElem?_eq_none (by omega), Option.getD_none, nm_less _ _ (by omega) hx]
        simp
        omega
  have h := Yba.slices_BinarySearch g 0 NS.length cap (fun t => nm (NS.getD t 7)) (nm NS[q]) w (by omega) hcell
  rw [hbs] at h
  refine h.mono ?_
  rintro e w' ⟨rfl, k, rfl⟩
  refine ⟨?_, k, rfl⟩
  have : decide (q < NS.length ∧ nm (NS.getD q 7) = nm NS[q]) = true := by simp [hq]
  rw [this]

theorem ot_putRow {α : Type} [Inhabited α] (enc : α → Value) (w : World) (n blk off : Nat) (d : Array α) : Ot (fun k => k = blk) w (putRow enc (Sort.ahead w n) blk off d) :=
  ⟨rfl, rfl, rfl, by simp [Sort.ahead], fun k _ hk => by
    simp only [putRow, mapBlock, Array.getElem?_modify, Sort.ahead]
    rw [if_neg (fun h => hk h.symm)]⟩

theorem Yba.info9 : ∃ i0, Yba.prog.info? 9 = some i0 ∧ i0.size = 1 := by
  cases h : Yba.prog.info? 9 with
  | none => have := Yba.underlying9; simp [Program.underlying, h] at this
  | some i =>
    refine ⟨i, rfl, ?_⟩
    have h1 : (Yba.prog.info? 9).map (·.size) = some 1 := by kernel_rfl
    rw [h] at h1
    simpa using h1

theorem delete_any (g cap q : Nat) (NS : List Nat) (w : World) (hq : q < NS.length) (hcap : NS.length ≤ cap) (hcm : cap ≤ 9223372036854775807) (hc : NR w g NS) :
    Calls Yba.prog 13 #[.slice (some ⟨g, 0, none⟩) NS.length cap, .int .i64 q, .int .i64 ((q : Int) + 1)] w fun e w' =>
      e = .returned (.slice (some ⟨g, 0, none⟩) (NS.eraseIdx q).length cap) ∧ NR w' g (NS.eraseIdx q) ∧ Ot (fun k => k = g) w w' := by
  obtain ⟨i0, hi0, hz0⟩ := Yba.info9
  have h := Yba.slices_Delete Value.string (fun _ => rfl) ⟨#[]⟩ Yba.zeroValue9 i0 hi0 hz0 g 0 cap q (q + 1) (NS.map nm).toArray w hc (by simpa using hcap) hcm (by omega) (by simp; omega)
  have e1 : ((NS.map nm).toArray.size) = NS.length := by simp
  rw [e1] at h
  refine h.mono ?_
  rintro e w' ⟨rfl, k, rfl⟩
  have hl : (NS.eraseIdx q).length = NS.length - 1 := by rw [List.length_eraseIdx, if_pos hq]
  refine ⟨by rw [hl, show NS.length - (q + 1 - q) = NS.length - 1 by omega], ?_, ot_putRow _ _ _ _ _ _⟩
  have hh := holds_putRow Value.string (Sort.ahead w k) g 0 (NS.map nm).toArray ((NS.map nm).toArray.toList.take q ++ (NS.map nm).toArray.toList.drop (q + 1) ++ List.replicate (q + 1 - q) (⟨#[]⟩ : ByteArray)).toArray (holds_ahead _ _ _ _ _ _ hc) (by simp; omega)
  intro j hj
  have hj' : j < NS.length - 1 := by simpa [hl] using hj
  have := hh j (by simp; omega)
  rw [this.1, this.2]
  refine ⟨?_, rfl⟩
  have key : ∀ a b : ByteArray, a = b → some (Value.string a) = some (Value.string b) := fun a b h => by rw [h]
  apply key
  have hj2 : j < ((NS.eraseIdx q).map nm).length := by simp; omega
  have hX : (NS.map nm).toArray.toList.take q ++ (NS.map nm).toArray.toList.drop (q + 1) = (NS.eraseIdx q).map nm := by
    rw [← map_erase, List.eraseIdx_eq_take_drop_succ]
  rw [hX]
  generalize (NS.eraseIdx q).map nm = X at hj2
  rw [getElem!_pos _ j (by simp; omega), getElem!_pos _ j (by simpa using hj2)]
  simp only [List.getElem_toArray]
  exact List.getElem_append_left hj2

theorem erase_filter : ∀ {NS : List Nat}, NS.Nodup → ∀ {q : Nat} (hq : q < NS.length), NS.eraseIdx q = NS.filter (fun x => x != NS[q])
  | [], _, q, hq => by simp at hq
  | x :: l, hn, 0, _ => by
    simp only [List.nodup_cons] at hn
    simp
    symm
    rw [List.filter_eq_self]
    intro y hy
    simp
    intro h
    subst h
    exact hn.1 hy
  | x :: l, hn, q + 1, hq => by
    simp only [List.nodup_cons] at hn
    have hq' : q < l.length := by simpa using hq
    have : x ≠ l[q] := fun h => hn.1 (by rw [h]; exact List.getElem_mem hq')
    simp [this, erase_filter hn.2 hq']

end Go.Proofs.Ybulkdjcm
