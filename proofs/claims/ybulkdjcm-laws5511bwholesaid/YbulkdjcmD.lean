/-
  THE SMALL CONTRACTS: the address (funcs 8, 5), the picking closure (func 10).
-/
import Derived.Test.YbulkdjcmC
import Derived.BigRegion
namespace Go.Proofs.Ybulkdjcm
open Go.RowKit Go.ChangeMaps

theorem below_alloc (w : World) (o : Obj) : Below w.heap.size w (w.alloc o) := (Below.refl _ _).alloc (Nat.le_refl _) o

theorem from_any (p : Nat) (w : World) :
    Calls Yba.prog 8 #[.agg #[.int .u64 0, .int .u64 0, .pointer none], .int .u16 p] w fun e w' => e = .returned (.agg #[.int .u64 0, .int .u64 0, .pointer none, .int .u16 p]) ∧
      w' = (w.alloc (.cells #[.int .u64 0, .int .u64 0, .pointer none] 41)).alloc (.cells #[.int .u64 0, .int .u64 0, .pointer none, .int .u16 p] 43) := by
  go_enter Yba.func8, Yba.ntmps8
  go_wp2_with fail
  exact bodyPost_ret (v := pk p) (by simp [results, Yba.results8, go_sem, pk]) rfl ⟨rfl, rfl⟩

theorem addr_any (p : Nat) (w : World) :
    Calls Yba.prog 5 #[.int .u16 p] w fun e w' => e = .returned (pk p) ∧ Below w.heap.size w w' := by
  go_enter Yba.func5, Yba.ntmps5
  go_wp2_with (go_at_call 8; refine (from_any p _).mono ?_; rintro e w' ⟨rfl, rfl⟩)
  refine bodyPost_ret (v := pk p) (by simp [results, Yba.results5, go_sem, pk]) rfl ⟨rfl, ?_⟩
  repeat (first | exact Below.refl _ _ | refine Below.setCell ?_ (by simp) _ | refine Below.alloc ?_ (by simp <;> omega) _)

/-- What an inner map holds at an address: the time of the publish, told by how many minutes ago it was. -/
def tv (n ago : Int) : Value := .int .i64 (wrap64 (n - ago * 60000000000))

theorem wsub (n x : Int) (h0 : -9223372036854775808 ≤ x) (h1 : x ≤ 9223372036854775807) : wrap64 (n - wrap64 (n - x)) = x := by
  unfold wrap64
  omega

theorem which_any (n ago : Int) (p bn ba bi c : Nat) (l : List (Nat × Int × Nat)) (w : World) (hp : p < 65536) (hl : ∀ e ∈ l, e.1 < 65536)
    (hn : w.cell? ⟨bn, 0, none⟩ = some (.int .i64 n)) (ha : w.cell? ⟨ba, 0, none⟩ = some (.map (some bi))) (hb : w.heap[bi]? = some (mobj pk (tv n) l c))
    (hk : lk p l = some ago) (h0 : -32768 ≤ ago) (h1 : ago ≤ 32767) :
    Calls Yba.prog 10 #[pk p, .pointer (some ⟨bn, 0, none⟩), .pointer (some ⟨ba, 0, none⟩)] w fun e w' => e = .returned (.bool (decide (3 ≤ ago))) ∧ Below w.heap.size w w' := by
  have hlb : bi < w.heap.size := by
    rcases Nat.lt_or_ge bi w.heap.size with h | h
    · exact h
    · rw [Array.getElem?_eq_none h] at hb; cases hb
  have hb1 : (w.alloc (Obj.cells #[.int .u64 0, .int .u64 0, .pointer none, .int .u16 p] 43)).heap[bi]? = some (mobj pk (tv n) l c) := by rw [Below.heap_alloc _ _ _ hlb]; exact hb
  have hn1 : (w.alloc (Obj.cells #[.int .u64 0, .int .u64 0, .pointer none, .int .u16 p] 43)).cell? ⟨bn, 0, none⟩ = some (.int .i64 n) := ((below_alloc w _).cell (World.block_lt_of_cell? _ _ hn)).trans hn
  have ha1 : (w.alloc (Obj.cells #[.int .u64 0, .int .u64 0, .pointer none, .int .u16 p] 43)).cell? ⟨ba, 0, none⟩ = some (.map (some bi)) := ((below_alloc w _).cell (World.block_lt_of_cell? _ _ ha)).trans ha
  have hg1 : Below w.heap.size w (w.alloc (Obj.cells #[.int .u64 0, .int .u64 0, .pointer none, .int .u16 p] 43)) := below_alloc w _
  have hlook := fun q => run_lookup_mine (w := (w.alloc (Obj.cells #[.int .u64 0, .int .u64 0, .pointer none, .int .u16 p] 43)).drewN q) (P := Yba.prog) Yba.underlying28 keys43 hp hl hb1 (.int .i64 0) (by kernel_rfl) false
  rw [hk] at hlook
  simp only [Bool.false_eq_true, if_false, Option.map_some, Option.getD_some, tv] at hlook
  unfold pk at hlook
  unfold pk
  go_enter Yba.func10, Yba.ntmps10
  go_wp2
  clear hn ha hb hb1 hl hk
  go_quiet (fail)
  go_wp2
  go_ret
  refine ⟨?_, ?_⟩
  · rw [wsub n (ago * 60000000000) (by omega) (by omega)]
    have hd : decide (180000000000 ≤ ago * 60000000000) = decide (3 ≤ ago) := decide_eq_decide.2 (by omega)
    rw [hd]
    rfl
  · exact ⟨hg1.os, hg1.tape, hg1.output, hg1.size, hg1.block⟩

end Go.Proofs.Ybulkdjcm
