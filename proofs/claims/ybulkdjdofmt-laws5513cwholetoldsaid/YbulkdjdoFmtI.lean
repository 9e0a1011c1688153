import Derived.Test.YbulkdjdoFmtH
namespace Go.Proofs.YbulkdjdoFmt
open Go.RowKit

set_option maxHeartbeats 1600000 in
set_option maxRecDepth 100000 in
theorem law_big (a b c : Option Addr) (ls lt lc c1 c2 c3 : Nat) (dv : Bool) (w : World) (h1 : ls ≤ 140737488351232) (h2 : lt ≤ 140737488351232) (h3 : lc ≤ 140737488351232) (hbig : 4096 < ls + lt + lc) :
    Calls Ybaf.prog 3 #[.slice a ls c1, .slice b lt c2, .slice c lc c3, .bool dv] w fun e w' => e = .returned (.bool true) ∧ Below w.heap.size w w' := by
  go_enter Ybaf.func3, Ybaf.ntmps3
  go_wp2_with fail
  go_ret
  exact ⟨rfl, Below.refl _ _⟩

theorem reads_of {w : World} {B : Nat} {a : Option Addr} {c : Nat} {ys : List Int} (h : Owns w B (.slice a ys.length c) ys) : Reads w a ys := by
  obtain ⟨a', c', h1, h2⟩ := h.reads
  cases h1
  exact h2

theorem below_alloc (w : World) (o : Obj) : Below w.heap.size w (w.alloc o) := (Below.refl _ _).alloc (Nat.le_refl _) o

set_option maxHeartbeats 1600000 in
set_option maxRecDepth 100000 in
theorem law_derive (vs vt vc : Value) (ls lt lc : Nat) (w : World) (h1 : Arg8 w vs ls) (h2 : Arg8 w vt lt) (h3 : Arg8 w vc lc) (hsum : ls + lt + lc ≤ 4096) :
    Calls Ybaf.prog 3 #[vs, vt, vc, .bool true] w fun e w' => e = .returned (.bool true) ∧ Below w.heap.size w w' := by
  have H1 : Hid (Arg8 w vs ls) := h1
  have H2 : Hid (Arg8 w vt lt) := h2
  have H3 : Hid (Arg8 w vc lc) := h3
  obtain ⟨a1, c1, rfl, _⟩ := h1
  obtain ⟨a2, c2, rfl, _⟩ := h2
  obtain ⟨a3, c3, rfl, _⟩ := h3
  have hs' : (ls : Int) + (lt : Int) + (lc : Int) ≤ 4096 := by omega
  go_enter Ybaf.func3, Ybaf.ntmps3
  go_wp2_with fail
  refine (build_any H1.out (by omega)).mono ?_
  rintro e w1 ⟨v1, y1, rfl, hy1, hy2, hy3, ho1, hb1⟩
  go_wp2_with fail
  refine (seq_any ho1 hy2 hy3 hy1 (by omega) (by omega)).mono ?_
  rintro e w2 ⟨v2, ss, rfl, hgs, hsl, ho2, hb2⟩
  have hb2' : Hid (Below w.heap.size w w2) := hb1.trans (hb2.mono hb1.size)
  have HO2 : Hid (Owns w2 w1.heap.size v2 ss) := ho2
  have Hgs : Hid (GoodTo ss 1044480) := hgs
  obtain ⟨aS, cs, rfl, _⟩ := ho2.reads
  have hsn : ss.length ≤ 4096 := by omega
  clear ho1 hb1 hb2 hy1 hy2 hy3 hsl ho2 hgs
  go_wp2_with fail
  refine (derive_any (HO2.out.kept (below_alloc w2 _)) hsn Hgs.out (by omega) (by omega) (H3.out.kept (hb2'.out.trans ((below_alloc w2 _).mono hb2'.out.size))) (by omega)).mono ?_
  rintro e w3 ⟨v3, y3, rfl, hy1, hy2, hy3, ho3, hb3⟩
  go_wp2_with fail
  refine (seq_any ho3 (by omega) hy3 hy1 (by omega) (by omega)).mono ?_
  rintro e w4 ⟨v4, ts, rfl, hgt, htl, ho4, hb4⟩
  have hb4' : Hid (Below (w2.heap.size + 1) (w2.alloc (.cells #[.slice aS ss.length cs] 25)) w4) := (hb3.trans (hb4.mono hb3.size)).mono (by simp)
  have HO4 : Hid (Owns w4 w3.heap.size v4 ts) := ho4
  have Hgt : Hid (GoodTo ts (1044480 + 1)) := hgt
  obtain ⟨at', ct, rfl, _⟩ := ho4.reads
  have htn : ts.length ≤ 4096 := by omega
  have hcs : w4.cell? ⟨w2.heap.size, 0, none⟩ = some (.slice aS ss.length cs) := by rw [hb4'.out.cell (p := ⟨w2.heap.size, 0, none⟩) (by show w2.heap.size < _; omega)]; simp
  have HB4 : Hid (Below w.heap.size w w4) := hb2'.out.trans (((below_alloc w2 _).mono hb2'.out.size).trans (hb4'.out.mono (by have := hb2'.out.size; omega)))
  have HS4 : Hid (Owns w4 w1.heap.size (.slice aS ss.length cs) ss) := (HO2.out.kept (below_alloc w2 _)).kept (hb4'.out.mono (by simp))
  have h24 : w2.heap.size < w4.heap.size := by have := hb4'.out.size; simp at this; omega
  clear ho3 hb3 ho4 hb4 hy1 hy2 hy3 hgt htl hb4' HO2 hb2'
  go_wp2_with fail
  have hw5 : ∃ w5, w5 = w4.alloc (.cells #[.slice at' ts.length ct] 25) := ⟨_, rfl⟩
  obtain ⟨w5, hw5⟩ := hw5
  have k1 : w5.cell? ⟨w2.heap.size, 0, none⟩ = some (.slice aS ss.length cs) := by rw [hw5, World.cell?_alloc_past _ _ _ h24]; exact hcs
  have k2 : w5.cell? ⟨w4.heap.size, 0, none⟩ = some (.slice at' ts.length ct) := by rw [hw5]; simp
  have hs5 : w4.heap.size < w5.heap.size := by rw [hw5]; simp
  have HB5 : Hid (Below w.heap.size w w5) := by rw [hw5]; exact HB4.out.alloc HB4.out.size _
  have HS5 : Hid (Owns w5 w1.heap.size (.slice aS ss.length cs) ss) := by rw [hw5]; exact HS4.out.kept (below_alloc _ _)
  have HT5 : Hid (Owns w5 w3.heap.size (.slice at' ts.length ct) ts) := by rw [hw5]; exact HO4.out.kept (below_alloc _ _)
  rw [← hw5]
  clear hw5 HB4 HS4 HO4 hcs
  refine (clone_any HS5.out hsn).mono ?_
  rintro e w6 ⟨v6, rfl, ho6, hb6⟩
  have k1' : w6.cell? ⟨w2.heap.size, 0, none⟩ = some (.slice aS ss.length cs) := by rw [hb6.cell (p := ⟨w2.heap.size, 0, none⟩) (by show w2.heap.size < _; omega)]; exact k1
  have k2' : w6.cell? ⟨w4.heap.size, 0, none⟩ = some (.slice at' ts.length ct) := by rw [hb6.cell (p := ⟨w4.heap.size, 0, none⟩) hs5]; exact k2
  have hs6 := hb6.size
  have HB6 : Hid (Below w.heap.size w w6) := HB5.out.trans (hb6.mono HB5.out.size)
  have HS6 : Hid (Owns w6 w1.heap.size (.slice aS ss.length cs) ss) := HS5.out.kept hb6
  have HT6 : Hid (Owns w6 w3.heap.size (.slice at' ts.length ct) ts) := HT5.out.kept hb6
  have HSC6 : Hid (Owns w6 w5.heap.size v6 ss) := ho6
  obtain ⟨a6, c6, rfl, _⟩ := ho6.reads
  clear k1 k2 hb6 ho6 HB5 HS5 HT5
  go_wp2_with fail
  refine (clone_any HT6.out htn).mono ?_
  rintro e w7 ⟨v7, rfl, ho7, hb7⟩
  have k1 : w7.cell? ⟨w2.heap.size, 0, none⟩ = some (.slice aS ss.length cs) := by rw [hb7.cell (p := ⟨w2.heap.size, 0, none⟩) (by show w2.heap.size < _; omega)]; exact k1'
  have k2 : w7.cell? ⟨w4.heap.size, 0, none⟩ = some (.slice at' ts.length ct) := by rw [hb7.cell (p := ⟨w4.heap.size, 0, none⟩) (by show w4.heap.size < _; omega)]; exact k2'
  have hs7 := hb7.size
  have HB7 : Hid (Below w.heap.size w w7) := HB6.out.trans (hb7.mono HB6.out.size)
  have HS7 : Hid (Owns w7 w1.heap.size (.slice aS ss.length cs) ss) := HS6.out.kept hb7
  have HT7 : Hid (Owns w7 w3.heap.size (.slice at' ts.length ct) ts) := HT6.out.kept hb7
  have HSC7 : Hid (Owns w7 w5.heap.size (.slice a6 ss.length c6) ss) := HSC6.out.kept hb7
  have HTC7 : Hid (Owns w7 w6.heap.size v7 ts) := ho7
  obtain ⟨a7, c7, rfl, _⟩ := ho7.reads
  clear k1' k2' hb7 ho7 HB6 HS6 HT6 HSC6
  go_wp2_with fail
  refine (includes_any _ _ _ _ _ _ ss ts _ _ w7 rfl rfl hsn htn (reads_of HS7.out) (reads_of HT7.out) Hgs.out Hgt.out).mono ?_
  rintro e w8 ⟨r8, rfl, hr8, hb8⟩
  have k1' : w8.cell? ⟨w2.heap.size, 0, none⟩ = some (.slice aS ss.length cs) := by rw [hb8.cell (p := ⟨w2.heap.size, 0, none⟩) (by show w2.heap.size < _; omega)]; exact k1
  have k2' : w8.cell? ⟨w4.heap.size, 0, none⟩ = some (.slice at' ts.length ct) := by rw [hb8.cell (p := ⟨w4.heap.size, 0, none⟩) (by show w4.heap.size < _; omega)]; exact k2
  have hs8 := hb8.size
  have HR8 : Hid (r8 = true ↔ Mdl ss ts) := hr8
  have HB8 : Hid (Below w.heap.size w w8) := HB7.out.trans (hb8.mono HB7.out.size)
  have HS8 : Hid (Owns w8 w1.heap.size (.slice aS ss.length cs) ss) := HS7.out.kept hb8
  have HT8 : Hid (Owns w8 w3.heap.size (.slice at' ts.length ct) ts) := HT7.out.kept hb8
  have HSC8 : Hid (Owns w8 w5.heap.size (.slice a6 ss.length c6) ss) := HSC7.out.kept hb8
  have HTC8 : Hid (Owns w8 w6.heap.size (.slice a7 ts.length c7) ts) := HTC7.out.kept hb8
  clear k1 k2 hb8 hr8 HB7 HS7 HT7 HSC7 HTC7
  go_wp2_with fail
  refine (model_any _ _ _ _ _ _ ss ts w8 rfl rfl hsn htn (reads_of HSC8.out) (reads_of HTC8.out)).mono ?_
  rintro e w9 ⟨r9, rfl, hr9, hb9⟩
  obtain rfl : r8 = r9 := by
    have h := HR8.out.trans hr9.symm
    revert h
    cases r8 <;> cases r9 <;> simp
  have k1 : w9.cell? ⟨w2.heap.size, 0, none⟩ = some (.slice aS ss.length cs) := by rw [hb9.cell (p := ⟨w2.heap.size, 0, none⟩) (by show w2.heap.size < _; omega)]; exact k1'
  have k2 : w9.cell? ⟨w4.heap.size, 0, none⟩ = some (.slice at' ts.length ct) := by rw [hb9.cell (p := ⟨w4.heap.size, 0, none⟩) (by show w4.heap.size < _; omega)]; exact k2'
  have hs9 := hb9.size
  have HB9 : Hid (Below w.heap.size w w9) := HB8.out.trans (hb9.mono HB8.out.size)
  have HS9 : Hid (Owns w9 w1.heap.size (.slice aS ss.length cs) ss) := HS8.out.kept hb9
  have HT9 : Hid (Owns w9 w3.heap.size (.slice at' ts.length ct) ts) := HT8.out.kept hb9
  have HSC9 : Hid (Owns w9 w5.heap.size (.slice a6 ss.length c6) ss) := HSC8.out.kept hb9
  have HTC9 : Hid (Owns w9 w6.heap.size (.slice a7 ts.length c7) ts) := HTC8.out.kept hb9
  clear k1' k2' hb9 hr9 HB8 HS8 HT8 HSC8 HTC8 HR8
  have hrr : (r8 == r8) = true := by simp
  go_wp2_with fail
  refine (equal_any _ _ _ _ _ ss w9 rfl hsn (reads_of HS9.out) (reads_of HSC9.out)).mono ?_
  rintro e w10 ⟨rfl, hb10⟩
  have k2' : w10.cell? ⟨w4.heap.size, 0, none⟩ = some (.slice at' ts.length ct) := by rw [hb10.cell (p := ⟨w4.heap.size, 0, none⟩) (by show w4.heap.size < _; omega)]; exact k2
  have HB10 : Hid (Below w.heap.size w w10) := HB9.out.trans (hb10.mono HB9.out.size)
  have HT10 : Hid (Owns w10 w3.heap.size (.slice at' ts.length ct) ts) := HT9.out.kept hb10
  have HTC10 : Hid (Owns w10 w6.heap.size (.slice a7 ts.length c7) ts) := HTC9.out.kept hb10
  clear k1 k2 hb10 HB9 HS9 HT9 HSC9 HTC9
  go_wp2_with fail
  refine (equal_any _ _ _ _ _ ts w10 rfl htn (reads_of HT10.out) (reads_of HTC10.out)).mono ?_
  rintro e w11 ⟨rfl, hb11⟩
  have HB11 : Hid (Below w.heap.size w w11) := HB10.out.trans (hb11.mono HB10.out.size)
  clear hb11 HB10 HT10 HTC10 k2'
  go_wp2_with fail
  go_ret
  exact ⟨rfl, HB11.out⟩

set_option maxHeartbeats 1600000 in
set_option maxRecDepth 100000 in
theorem law_other (vs vt vc : Value) (ls lt lc : Nat) (w : World) (h1 : Arg8 w vs ls) (h2 : Arg8 w vt lt) (h3 : Arg8 w vc lc) (hsum : ls + lt + lc ≤ 4096) :
    Calls Ybaf.prog 3 #[vs, vt, vc, .bool false] w fun e w' => e = .returned (.bool true) ∧ Below w.heap.size w w' := by
  have H1 : Hid (Arg8 w vs ls) := h1
  have H2 : Hid (Arg8 w vt lt) := h2
  have H3 : Hid (Arg8 w vc lc) := h3
  obtain ⟨a1, c1, rfl, _⟩ := h1
  obtain ⟨a2, c2, rfl, _⟩ := h2
  obtain ⟨a3, c3, rfl, _⟩ := h3
  have hs' : (ls : Int) + (lt : Int) + (lc : Int) ≤ 4096 := by omega
  go_enter Ybaf.func3, Ybaf.ntmps3
  go_wp2_with fail
  refine (build_any H1.out (by omega)).mono ?_
  rintro e w1 ⟨v1, y1, rfl, hy1, hy2, hy3, ho1, hb1⟩
  go_wp2_with fail
  refine (seq_any ho1 hy2 hy3 hy1 (by omega) (by omega)).mono ?_
  rintro e w2 ⟨v2, ss, rfl, hgs, hsl, ho2, hb2⟩
  have hb2' : Hid (Below w.heap.size w w2) := hb1.trans (hb2.mono hb1.size)
  have HO2 : Hid (Owns w2 w1.heap.size v2 ss) := ho2
  have Hgs : Hid (GoodTo ss 1044480) := hgs
  obtain ⟨aS, cs, rfl, _⟩ := ho2.reads
  have hsn : ss.length ≤ 4096 := by omega
  clear ho1 hb1 hb2 hy1 hy2 hy3 hsl ho2 hgs
  go_wp2_with fail
  refine (build_any (H2.out.kept (hb2'.out.trans ((below_alloc w2 _).mono hb2'.out.size))) (by omega)).mono ?_
  rintro e w3 ⟨v3, y3, rfl, hy1, hy2, hy3, ho3, hb3⟩
  go_wp2_with fail
  refine (seq_any ho3 (by omega) hy3 hy1 (by omega) (by omega)).mono ?_
  rintro e w4 ⟨v4, ts, rfl, hgt, htl, ho4, hb4⟩
  have hb4' : Hid (Below (w2.heap.size + 1) (w2.alloc (.cells #[.slice aS ss.length cs] 25)) w4) := (hb3.trans (hb4.mono hb3.size)).mono (by simp)
  have HO4 : Hid (Owns w4 w3.heap.size v4 ts) := ho4
  have Hgt : Hid (GoodTo ts 1044480) := hgt
  obtain ⟨at', ct, rfl, _⟩ := ho4.reads
  have htn : ts.length ≤ 4096 := by omega
  have hcs : w4.cell? ⟨w2.heap.size, 0, none⟩ = some (.slice aS ss.length cs) := by rw [hb4'.out.cell (p := ⟨w2.heap.size, 0, none⟩) (by show w2.heap.size < _; omega)]; simp
  have HB4 : Hid (Below w.heap.size w w4) := hb2'.out.trans (((below_alloc w2 _).mono hb2'.out.size).trans (hb4'.out.mono (by have := hb2'.out.size; omega)))
  have HS4 : Hid (Owns w4 w1.heap.size (.slice aS ss.length cs) ss) := (HO2.out.kept (below_alloc w2 _)).kept (hb4'.out.mono (by simp))
  have h24 : w2.heap.size < w4.heap.size := by have := hb4'.out.size; simp at this; omega
  clear ho3 hb3 ho4 hb4 hy1 hy2 hy3 hgt htl hb4' HO2 hb2'
  go_wp2_with fail
  have hw5 : ∃ w5, w5 = w4.alloc (.cells #[.slice at' ts.length ct] 25) := ⟨_, rfl⟩
  obtain ⟨w5, hw5⟩ := hw5
  have k1 : w5.cell? ⟨w2.heap.size, 0, none⟩ = some (.slice aS ss.length cs) := by rw [hw5, World.cell?_alloc_past _ _ _ h24]; exact hcs
  have k2 : w5.cell? ⟨w4.heap.size, 0, none⟩ = some (.slice at' ts.length ct) := by rw [hw5]; simp
  have hs5 : w4.heap.size < w5.heap.size := by rw [hw5]; simp
  have HB5 : Hid (Below w.heap.size w w5) := by rw [hw5]; exact HB4.out.alloc HB4.out.size _
  have HS5 : Hid (Owns w5 w1.heap.size (.slice aS ss.length cs) ss) := by rw [hw5]; exact HS4.out.kept (below_alloc _ _)
  have HT5 : Hid (Owns w5 w3.heap.size (.slice at' ts.length ct) ts) := by rw [hw5]; exact HO4.out.kept (below_alloc _ _)
  rw [← hw5]
  clear hw5 HB4 HS4 HO4 hcs
  refine (clone_any HS5.out hsn).mono ?_
  rintro e w6 ⟨v6, rfl, ho6, hb6⟩
  have k1' : w6.cell? ⟨w2.heap.size, 0, none⟩ = some (.slice aS ss.length cs) := by rw [hb6.cell (p := ⟨w2.heap.size, 0, none⟩) (by show w2.heap.size < _; omega)]; exact k1
  have k2' : w6.cell? ⟨w4.heap.size, 0, none⟩ = some (.slice at' ts.length ct) := by rw [hb6.cell (p := ⟨w4.heap.size, 0, none⟩) hs5]; exact k2
  have hs6 := hb6.size
  have HB6 : Hid (Below w.heap.size w w6) := HB5.out.trans (hb6.mono HB5.out.size)
  have HS6 : Hid (Owns w6 w1.heap.size (.slice aS ss.length cs) ss) := HS5.out.kept hb6
  have HT6 : Hid (Owns w6 w3.heap.size (.slice at' ts.length ct) ts) := HT5.out.kept hb6
  have HSC6 : Hid (Owns w6 w5.heap.size v6 ss) := ho6
  obtain ⟨a6, c6, rfl, _⟩ := ho6.reads
  clear k1 k2 hb6 ho6 HB5 HS5 HT5
  go_wp2_with fail
  refine (clone_any HT6.out htn).mono ?_
  rintro e w7 ⟨v7, rfl, ho7, hb7⟩
  have k1 : w7.cell? ⟨w2.heap.size, 0, none⟩ = some (.slice aS ss.length cs) := by rw [hb7.cell (p := ⟨w2.heap.size, 0, none⟩) (by show w2.heap.size < _; omega)]; exact k1'
  have k2 : w7.cell? ⟨w4.heap.size, 0, none⟩ = some (.slice at' ts.length ct) := by rw [hb7.cell (p := ⟨w4.heap.size, 0, none⟩) (by show w4.heap.size < _; omega)]; exact k2'
  have hs7 := hb7.size
  have HB7 : Hid (Below w.heap.size w w7) := HB6.out.trans (hb7.mono HB6.out.size)
  have HS7 : Hid (Owns w7 w1.heap.size (.slice aS ss.length cs) ss) := HS6.out.kept hb7
  have HT7 : Hid (Owns w7 w3.heap.size (.slice at' ts.length ct) ts) := HT6.out.kept hb7
  have HSC7 : Hid (Owns w7 w5.heap.size (.slice a6 ss.length c6) ss) := HSC6.out.kept hb7
  have HTC7 : Hid (Owns w7 w6.heap.size v7 ts) := ho7
  obtain ⟨a7, c7, rfl, _⟩ := ho7.reads
  clear k1' k2' hb7 ho7 HB6 HS6 HT6 HSC6
  go_wp2_with fail
  refine (includes_any _ _ _ _ _ _ ss ts _ _ w7 rfl rfl hsn htn (reads_of HS7.out) (reads_of HT7.out) Hgs.out Hgt.out).mono ?_
  rintro e w8 ⟨r8, rfl, hr8, hb8⟩
  have k1' : w8.cell? ⟨w2.heap.size, 0, none⟩ = some (.slice aS ss.length cs) := by rw [hb8.cell (p := ⟨w2.heap.size, 0, none⟩) (by show w2.heap.size < _; omega)]; exact k1
  have k2' : w8.cell? ⟨w4.heap.size, 0, none⟩ = some (.slice at' ts.length ct) := by rw [hb8.cell (p := ⟨w4.heap.size, 0, none⟩) (by show w4.heap.size < _; omega)]; exact k2
  have hs8 := hb8.size
  have HR8 : Hid (r8 = true ↔ Mdl ss ts) := hr8
  have HB8 : Hid (Below w.heap.size w w8) := HB7.out.trans (hb8.mono HB7.out.size)
  have HS8 : Hid (Owns w8 w1.heap.size (.slice aS ss.length cs) ss) := HS7.out.kept hb8
  have HT8 : Hid (Owns w8 w3.heap.size (.slice at' ts.length ct) ts) := HT7.out.kept hb8
  have HSC8 : Hid (Owns w8 w5.heap.size (.slice a6 ss.length c6) ss) := HSC7.out.kept hb8
  have HTC8 : Hid (Owns w8 w6.heap.size (.slice a7 ts.length c7) ts) := HTC7.out.kept hb8
  clear k1 k2 hb8 hr8 HB7 HS7 HT7 HSC7 HTC7
  go_wp2_with fail
  refine (model_any _ _ _ _ _ _ ss ts w8 rfl rfl hsn htn (reads_of HSC8.out) (reads_of HTC8.out)).mono ?_
  rintro e w9 ⟨r9, rfl, hr9, hb9⟩
  obtain rfl : r8 = r9 := by
    have h := HR8.out.trans hr9.symm
    revert h
    cases r8 <;> cases r9 <;> simp
  have k1 : w9.cell? ⟨w2.heap.size, 0, none⟩ = some (.slice aS ss.length cs) := by rw [hb9.cell (p := ⟨w2.heap.size, 0, none⟩) (by show w2.heap.size < _; omega)]; exact k1'
  have k2 : w9.cell? ⟨w4.heap.size, 0, none⟩ = some (.slice at' ts.length ct) := by rw [hb9.cell (p := ⟨w4.heap.size, 0, none⟩) (by show w4.heap.size < _; omega)]; exact k2'
  have hs9 := hb9.size
  have HB9 : Hid (Below w.heap.size w w9) := HB8.out.trans (hb9.mono HB8.out.size)
  have HS9 : Hid (Owns w9 w1.heap.size (.slice aS ss.length cs) ss) := HS8.out.kept hb9
  have HT9 : Hid (Owns w9 w3.heap.size (.slice at' ts.length ct) ts) := HT8.out.kept hb9
  have HSC9 : Hid (Owns w9 w5.heap.size (.slice a6 ss.length c6) ss) := HSC8.out.kept hb9
  have HTC9 : Hid (Owns w9 w6.heap.size (.slice a7 ts.length c7) ts) := HTC8.out.kept hb9
  clear k1' k2' hb9 hr9 HB8 HS8 HT8 HSC8 HTC8 HR8
  have hrr : (r8 == r8) = true := by simp
  go_wp2_with fail
  refine (equal_any _ _ _ _ _ ss w9 rfl hsn (reads_of HS9.out) (reads_of HSC9.out)).mono ?_
  rintro e w10 ⟨rfl, hb10⟩
  have k2' : w10.cell? ⟨w4.heap.size, 0, none⟩ = some (.slice at' ts.length ct) := by rw [hb10.cell (p := ⟨w4.heap.size, 0, none⟩) (by show w4.heap.size < _; omega)]; exact k2
  have HB10 : Hid (Below w.heap.size w w10) := HB9.out.trans (hb10.mono HB9.out.size)
  have HT10 : Hid (Owns w10 w3.heap.size (.slice at' ts.length ct) ts) := HT9.out.kept hb10
  have HTC10 : Hid (Owns w10 w6.heap.size (.slice a7 ts.length c7) ts) := HTC9.out.kept hb10
  clear k1 k2 hb10 HB9 HS9 HT9 HSC9 HTC9
  go_wp2_with fail
  refine (equal_any _ _ _ _ _ ts w10 rfl htn (reads_of HT10.out) (reads_of HTC10.out)).mono ?_
  rintro e w11 ⟨rfl, hb11⟩
  have HB11 : Hid (Below w.heap.size w w11) := HB10.out.trans (hb11.mono HB10.out.size)
  clear hb11 HB10 HT10 HTC10 k2'
  go_wp2_with fail
  go_ret
  exact ⟨rfl, HB11.out⟩

end Go.Proofs.YbulkdjdoFmt
