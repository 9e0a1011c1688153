/-
  For the law (3): the copy of the keys.
-/
import Derived.Test.YbulkdjggFmtLa
import Derived.Test.YbulkdjggFmtW
namespace Go.Proofs.YbulkdjggFmt
open Go.RowKit Go.Sort Go.ChangeMaps

abbrev strs (ks : List ByteArray) : List Value := ks.map Value.string

theorem Strs.below {W W' : World} {ao : Option Addr} {ks : List ByteArray} (h : Strs W ao ks) (hb : Below W.heap.size W W') : Strs W' ao ks := fun h0 => by
  obtain ⟨b, off, h1, h2⟩ := h h0
  exact ⟨b, off, h1, fun j hj => (hb.cell (World.block_lt_of_cell? _ _ (h2 j hj))).trans (h2 j hj)⟩

theorem copy_keys {W : World} {ka : Option Addr} {K kc b2 : Nat} {ks : List ByteArray} (hk : Strs W ka ks) (hK : ks.length = K) (hc : ∀ j, j < K → (W.cell? ⟨b2, j, none⟩).isSome = true) (hf : ∀ j, W.frozen? ⟨b2, j, none⟩ = false) (ty : Nat) :
    (Builtin.copy_ #[23, 23] ty #[.slice (some ⟨b2, 0, none⟩) K K, .slice ka K kc]).run Ybaf.prog W = .ok (.int .i64 K) (W.setCells b2 0 (strs ks)) := by
  rcases Nat.eq_zero_or_pos K with h0 | h0
  · have hks : ks = [] := List.eq_nil_of_length_eq_zero (by omega)
    subst h0 hks
    exact run_copy_none (P := Ybaf.prog) W 23 23 ty 9 (some ⟨b2, 0, none⟩) ka 0 0 0 kc Ybaf.underlying23 (by kernel_rfl) rfl
  · obtain ⟨b, off, rfl, h2⟩ := hk (by omega)
    refine run_copy_k W 23 23 ty 9 1 K b2 K ⟨b, off, none⟩ kc _ Ybaf.underlying23 (by kernel_rfl) (by simp [hK]) (fun j u hu => ?_) (fun j hj => hc j (by simpa [hK] using hj)) (fun j _ => hf j) (fun v hv => by obtain ⟨i, _, rfl⟩ := List.mem_map.1 hv; rfl)
    rw [List.getElem?_map] at hu
    have hj : j < ks.length := by
      rcases Nat.lt_or_ge j ks.length with h | h
      · exact h
      · rw [List.getElem?_eq_none h] at hu; simp at hu
    have h3 := h2 j hj
    rw [List.getD_eq_getElem?_getD, List.getElem?_eq_getElem hj, Option.getD_some] at h3
    rw [List.getElem?_eq_getElem hj] at hu
    simp only [Option.map_some, Option.some.injEq] at hu
    subst hu
    rw [add_at]; exact h3

theorem strs_at {W : World} {b2 : Nat} {ks : List ByteArray} (h : ∀ j v, (strs ks)[j]? = some v → W.cell? ⟨b2, j, none⟩ = some v) : ∀ j, j < ks.length → W.cell? ⟨b2, j, none⟩ = some (.string (ks.getD j ⟨#[]⟩)) := fun j hj =>
  h j _ (by rw [List.getElem?_map, List.getElem?_eq_getElem hj, List.getD_eq_getElem?_getD, List.getElem?_eq_getElem hj]; rfl)
theorem names_got {W : World} {b2 n : Nat} (h : ∀ j v, ((List.range n).map fun i => Value.string (nm i))[j]? = some v → W.cell? ⟨b2, j, none⟩ = some v) : ∀ j, j < n → W.cell? ⟨b2, j, none⟩ = some (.string (nm j)) := fun j hj =>
  h j _ (by rw [List.getElem?_map, List.getElem?_range hj]; rfl)

end Go.Proofs.YbulkdjggFmt
