/-
  THE KEYS OF THE TWO MAPS: the names (of one letter each) and the addresses (told apart by the port).
-/
import Derived.Test.YbulkdjcmB
namespace Go.Proofs.Ybulkdjcm
open Go.RowKit Go.ChangeMaps

def pk (p : Nat) : Value := .agg #[.int .u64 0, .int .u64 0, .pointer none, .int .u16 p]
def sk (i : Nat) : Value := .string (nm i)

theorem eq41 (w : World) : (Op.equalIn 9999 41 (.agg #[.int .u64 0, .int .u64 0, .pointer none]) (.agg #[.int .u64 0, .int .u64 0, .pointer none])).run Yba.prog w = .ok true w := by kernel_rfl
theorem st43 : Yba.prog.stoodInHeld 43 = false := by kernel_rfl
theorem part41 (p : Nat) (w : World) : (part 41 #[.int .u64 0, .int .u64 0, .pointer none, .int .u16 p] 0).run Yba.prog w = .ok (.agg #[.int .u64 0, .int .u64 0, .pointer none]) w := by kernel_rfl
theorem part30 (p : Nat) (w : World) : (part 30 #[.int .u64 0, .int .u64 0, .pointer none, .int .u16 p] 3).run Yba.prog w = .ok (.int .u16 p) w := by kernel_rfl

theorem eq43 (a b : Nat) (w : World) : (Op.equal 43 (pk a) (pk b)).run Yba.prog w = .ok (decide (a = b)) w := by
  have hs := run_equalIn_struct (P := Yba.prog) w 9999 43 #[.int .u64 0, .int .u64 0, .pointer none, .int .u16 a] #[.int .u64 0, .int .u64 0, .pointer none, .int .u16 b] (by kernel_rfl) st43
  have hf : (Yba.prog.fieldsOf 43).toList = [{ name := "ip", type := 41, offset := 0, embedded := false, tag := "", pkgPath := "net/netip", byteOffset := 0 }, { name := "port", type := 30, offset := 3, embedded := false, tag := "", pkgPath := "net/netip", byteOffset := 24 }] := by kernel_rfl
  have hi := run_equalIn_int (P := Yba.prog) w 9998 30 .u16 .u16 a b Yba.underlying30
  unfold Op.equal Op.maxDepth pk
  rw [hs, hf]
  simp [Op.eqFields, part41, part30, eq41, hi]
  by_cases h : a = b
  · simp [h]
  · simp [h]
    omega

theorem find_pk {β : Type} (V : β → Value) (a : Nat) (w : World) : ∀ (l : List (Nat × β × Nat)) (i : Nat), (Instr.findAsking 43 (pk a) (l.map (ent pk V)) i).run Yba.prog w = .ok ((fk a l i).map fun r => (r.1, V r.2)) w
  | [], i => by simp [Instr.findAsking, fk]
  | e :: l, i => by
    have ih := find_pk V a w l (i + 1)
    have he := eq43 a e.1 w
    by_cases h : a = e.1
    · simp [Instr.findAsking, fk, ent, ← h]
      rw [← h] at he
      simp [he]
    · simp [Instr.findAsking, fk, ent, h, he, ih]

theorem keys43 : Keys Yba.prog 43 pk 65536 := {
  check em a w _ := by unfold pk; kernel_rfl
  find V a l w _ _ := by
    rw [run_findKey_eq w (by rw [Yba.underlying43])]
    exact find_pk V a w l 0
  bits a := by simp [pk, Instr.sameBits] }

theorem nm_inj (a b : Nat) (ha : a < 8) (hb : b < 8) : (nm a == nm b) = decide (a = b) := by
  have h : ∀ a, a < 8 → ∀ b, b < 8 → (nm a == nm b) = decide (a = b) := by decide
  exact h a ha b hb

theorem find_sk {β : Type} (V : β → Value) (a : Nat) (ha : a < 8) : ∀ (l : List (Nat × β × Nat)) (i : Nat), (∀ e ∈ l, e.1 < 8) → Instr.findNow .string (sk a) (l.map (ent sk V)) i = some ((fk a l i).map fun r => (r.1, V r.2))
  | [], i, _ => by simp [Instr.findNow, fk]
  | e :: l, i, hl => by
    have ih := find_sk V a ha l (i + 1) (fun e he => hl e (by simp [he]))
    have he := nm_inj a e.1 ha (hl e (by simp))
    by_cases h : a = e.1
    · have : (nm a == nm e.1) = true := by rw [he]; simp [h]
      simp only [Instr.findNow, List.map_cons, ent, sk, Instr.sameNow, this, fk, if_pos h]
      rfl
    · have : (nm a == nm e.1) = false := by rw [he]; simp [h]
      simp only [Instr.findNow, List.map_cons, ent, sk, Instr.sameNow, this, fk, h, if_false]
      exact ih

theorem keys9 : Keys Yba.prog 9 sk 8 := {
  check em a w _ := by
    unfold sk
    kernel_rfl
  find V a l w ha hl := Go.MapKept.run_findKey Yba.underlying9 (find_sk V a ha l 0 hl)
  bits a := by
    have : (nm a == nm a) = true := by rw [beq_toListBytes]; exact beq_self_eq_true _
    simp [sk, Instr.sameBits, this] }

end Go.Proofs.Ybulkdjcm
