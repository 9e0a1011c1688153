/-
  DERIVED: THE SHELF's CONTRACTS AT THIS DUMP, IN PLAIN WORDS (tools/lay-plain.mjs out of 'YbaShelf.lean', which tools/lay-shelf.mjs wrote): THE SAME DECLARATIONS UNDER THE SAME NAMES: 'import', 'namespace', 'open', 'def', 'theorem' AND NOTHING ELSE: no command of the shelf's: FOR A HAND-IN. Each laying: the table of numbers ('.._ren') and one theorem, a field a fact of the dump's own or the kernel's comparison; each contract: ONE APPLICATION.
-/
import Derived.Ground.SlgnProg
import Derived.Shelf.SlicesE.Equal
import Derived.Shelf.SlicesE.Delete
import Derived.Ground.Names2Prog
import Derived.Shelf.Spec.SearchS
import Derived.Test.YbulkdjcmProg
namespace Go.Proofs
open Go.Shelf
def Yba.laysSlE33_f7_ren : Go.Shelf.Ren := ⟨fun | 33 => 7 | n => n, fun | 22 => 45 | 23 => 9 | 4 => 4 | 3 => 3 | 0 => 0 | n => n, fun | n => n⟩
theorem Yba.laysSlE33_f7 : Go.Proofs.SlLaysE.n33 Yba.prog Yba.laysSlE33_f7_ren := {
  mixed := by kernel_rfl
  f33 := ⟨Yba.f7.name, by decide, Yba.func7.trans (congrArg some (by kernel_rfl))⟩
  t0 := Yba.underlying0
  a0 := Yba.isAgg0
  z0 := Yba.sizeOf0
  v0 := Yba.zeroValue0
  t3 := Yba.underlying3
  a3 := Yba.isAgg3
  z3 := Yba.sizeOf3
  v3 := Yba.zeroValue3
  t4 := Yba.underlying4
  a4 := Yba.isAgg4
  z4 := Yba.sizeOf4
  v4 := Yba.zeroValue4
  t22 := Yba.underlying45
  a22 := Yba.isAgg45
  z22 := Yba.sizeOf45
  v22 := Yba.zeroValue45
  a23 := Yba.isAgg9
  z23 := Yba.sizeOf9 }
open Go.RowKit Go.Lib in
/-- slices.Equal: "Equal reports whether two slices are equal: the same length and all elements equal. .. Empty and nil slices are considered equal. Floating point NaNs are not considered equal.": IT RETURNS 'Lib.allEq eq (the one's elements) (the other's)'; the world is as it was but for the count of draws. (LAID AT THE INSTANCE 'slices.Equal[[]string,string]': no walk: one application.) -/
theorem Yba.slices_Equal {α : Type} [Inhabited α] (enc : α → Value) (eq : α → α → Bool) (hne : NeqAt Yba.prog 9 enc eq) (b1 o1 n c b2 o2 m d : Nat) (xs ys : List α) (w : World) (hx : n ≤ xs.length) (hy : m ≤ ys.length) (hbig : n ≤ 9223372036854775807) (hbig2 : m ≤ 9223372036854775807) (hc1 : ∀ j, j < xs.length → w.cell? ⟨b1, o1 + j, none⟩ = some (enc xs[j]!)) (hc2 : ∀ j, j < ys.length → w.cell? ⟨b2, o2 + j, none⟩ = some (enc ys[j]!)) :
    Calls Yba.prog 7 #[.slice (some ⟨b1, o1, none⟩) n c, .slice (some ⟨b2, o2, none⟩) m d] w fun e w' => e = .returned (.bool (Lib.allEq eq (xs.take n) (ys.take m))) ∧ ∃ q, w' = w.drewN q := AnyE.slices_Equal Yba.laysSlE33_f7 enc eq hne b1 o1 n c b2 o2 m d xs ys w hx hy hbig hbig2 hc1 hc2
def Yba.laysSlE45_f13_ren : Go.Shelf.Ren := ⟨fun | 45 => 13 | n => n, fun | 22 => 45 | 23 => 9 | 3 => 3 | 4 => 4 | 0 => 0 | n => n, fun | n => n⟩
theorem Yba.laysSlE45_f13 : Go.Proofs.SlLaysE.n45 Yba.prog Yba.laysSlE45_f13_ren := {
  mixed := by kernel_rfl
  f45 := ⟨Yba.f13.name, by decide, Yba.func13.trans (congrArg some (by kernel_rfl))⟩
  t0 := Yba.underlying0
  a0 := Yba.isAgg0
  z0 := Yba.sizeOf0
  v0 := Yba.zeroValue0
  t3 := Yba.underlying3
  a3 := Yba.isAgg3
  z3 := Yba.sizeOf3
  v3 := Yba.zeroValue3
  t4 := Yba.underlying4
  a4 := Yba.isAgg4
  z4 := Yba.sizeOf4
  v4 := Yba.zeroValue4
  t22 := Yba.underlying45
  a22 := Yba.isAgg45
  z22 := Yba.sizeOf45
  v22 := Yba.zeroValue45
  a23 := Yba.isAgg9
  z23 := Yba.sizeOf9 }
open Go.RowKit Go.Lib Go.Sort in
/-- slices.Delete: "Delete modifies s in place by removing the elements s[i:j], and returns the modified slice. .. Delete zeroes the elements s[len(s)-(j-i):len(s)].": FOR i ≤ j ≤ len(s) IT RETURNS THE SLICE CUT TO len(s) - (j - i) ELEMENTS; ITS CELLS HOLD what stood ahead of i, what stood from j on, then j - i zero values ('zr': the element whose 'enc' is the type's zero value). (LAID AT THE INSTANCE 'slices.Delete[[]string,string]': no walk: one application.) -/
theorem Yba.slices_Delete {α : Type} [Inhabited α] (enc : α → Value) (h1 : OneCell enc) (zr : α) (v23 : ∀ w, (zeroValue 9).run Yba.prog w = .ok (enc zr) w) (i0 : TypeInfo) (hi0 : Yba.prog.info? 9 = some i0) (hz1 : i0.size = 1) (blk off cap i j : Nat) (d : Array α) (w : World) (hH : Holds enc w blk off d) (hcap : d.size ≤ cap) (hm : cap ≤ 9223372036854775807) (hij : i ≤ j) (hj : j ≤ d.size) :
    Calls Yba.prog 13 #[.slice (some ⟨blk, off, none⟩) d.size cap, .int .i64 i, .int .i64 j] w fun e w' => e = .returned (.slice (some ⟨blk, off, none⟩) (d.size - (j - i)) cap) ∧ ∃ q, w' = putRow enc (Sort.ahead w q) blk off (d.toList.take i ++ d.toList.drop j ++ List.replicate (j - i) zr).toArray := AnyE.slices_Delete Yba.laysSlE45_f13 enc h1 zr v23 i0 hi0 hz1 blk off cap i j d w hH hcap hm hij hj
def Yba.laysNm226_ren : Go.Shelf.Ren := ⟨fun | 26 => 12 | 33 => 14 | 34 => 15 | 38 => 16 | n => n, fun | 24 => 45 | 9 => 9 | 3 => 3 | 4 => 4 | 40 => 27 | 0 => 0 | n => n, fun | n => n⟩
theorem Yba.laysNm226 : Go.Proofs.Lays2.n26 Yba.prog Yba.laysNm226_ren := {
  mixed := by kernel_rfl
  f26 := Yba.func12.trans (congrArg some (by kernel_rfl))
  f33 := Yba.func14.trans (congrArg some (by kernel_rfl))
  f34 := Yba.func15.trans (congrArg some (by kernel_rfl))
  f38 := Yba.func16.trans (congrArg some (by kernel_rfl))
  t0 := Yba.underlying0
  a0 := Yba.isAgg0
  z0 := Yba.sizeOf0
  v0 := Yba.zeroValue0
  t3 := Yba.underlying3
  a3 := Yba.isAgg3
  z3 := Yba.sizeOf3
  v3 := Yba.zeroValue3
  t4 := Yba.underlying4
  a4 := Yba.isAgg4
  z4 := Yba.sizeOf4
  v4 := Yba.zeroValue4
  t9 := Yba.underlying9
  a9 := Yba.isAgg9
  z9 := Yba.sizeOf9
  v9 := Yba.zeroValue9
  t24 := Yba.underlying45
  a24 := Yba.isAgg45
  z24 := Yba.sizeOf45
  v24 := Yba.zeroValue45
  t40 := Yba.underlying27
  a40 := Yba.isAgg27
  z40 := Yba.sizeOf27
  v40 := Yba.zeroValue27 }
open Go.RowKit Go.Lib Go.Sort in
/-- slices.BinarySearch at a slice of strings. -/
theorem Yba.slices_BinarySearch (b off n c : Nat) (Sx : Nat → ByteArray) (x : ByteArray) (w : World) (hbig : n < 4611686018427387904) (hc : ∀ j, j < n → w.cell? ⟨b, off + j, none⟩ = some (.string (Sx j))) :
    Calls Yba.prog 12 #[.slice (some ⟨b, off, none⟩) n c, .string x] w fun e w' =>
      e = .returned (.tuple #[.int .i64 (Lib.bsGo (fun t => Op.bytesLess (Sx t).toList x.toList) n 0 n : Nat), .bool (decide (Lib.bsGo (fun t => Op.bytesLess (Sx t).toList x.toList) n 0 n < n ∧ Sx (Lib.bsGo (fun t => Op.bytesLess (Sx t).toList x.toList) n 0 n) = x))]) ∧ ∃ q, w' = w.drewN q := Any2.slices_BinarySearch_string Yba.laysNm226 b off n c Sx x w hbig hc
end Go.Proofs
