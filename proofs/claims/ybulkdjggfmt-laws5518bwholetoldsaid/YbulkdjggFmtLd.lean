/-
  THE LAW (func 3): the second loop (block 2): the nodes and their placement.
-/
import Derived.Test.YbulkdjggFmtLc
namespace Go.Proofs.YbulkdjggFmt
open Go.RowKit Go.Sort Go.ChangeMaps

theorem getD_map_lt (f : Nat → Nat) (l : List Nat) (j : Nat) (hj : j < l.length) : (l.map f).getD j 0 = f (l.getD j 0) := by simp [List.getD_eq_getElem?_getD, hj]

/-- What stands while the law lays the nodes and their placement: t nodes are done. -/
structure L2 (w : World) (bn nb0 pm n : Nat) (px : Nat → List Nat) (t : Nat) (l : List (Nat × Value × Nat)) (c : Nat) (W : World) : Prop where
  bx : ∀ i, i < 4 → W.cell? ⟨bn, i, none⟩ = some (.string (nm i))
  nd : ∀ i, i < t → W.cell? ⟨nb0, i, none⟩ = some (.string (nm i))
  ne : ∀ i, i < n → (W.cell? ⟨nb0, i, none⟩).isSome = true ∧ W.frozen? ⟨nb0, i, none⟩ = false
  mp : W.heap[pm]? = some (mobj sk id l c)
  ky : ∀ e ∈ l, e.1 < t
  pl : ∀ i, i < t → (lk i l = none ∧ px i = []) ∨ ∃ g cap, lk i l = some (.slice (some ⟨g, 0, none⟩) (px i).length cap) ∧ 0 < (px i).length ∧ (∀ j, j < (px i).length → W.cell? ⟨g, j, none⟩ = some (.int .u64 ((px i).getD j 0))) ∧ pm < g
  b : Below w.heap.size w W

/-- A node is named. -/
theorem L2.name {w : World} {bn nb0 pm n : Nat} {px : Nat → List Nat} {t : Nat} {l : List (Nat × Value × Nat)} {c : Nat} {W : World} (h : L2 w bn nb0 pm n px t l c W) (h0 : w.heap.size ≤ bn) (h1 : bn < nb0) (h2 : nb0 < pm) (ht : t < n) :
    L2 w bn nb0 pm n px t l c (W.setCell ⟨nb0, t, none⟩ (.string (nm t))) ∧ (W.setCell ⟨nb0, t, none⟩ (.string (nm t))).cell? ⟨nb0, t, none⟩ = some (.string (nm t)) := by
  have ho : Ot (fun k => k = nb0) W (W.setCell ⟨nb0, t, none⟩ (.string (nm t))) := (Ot.refl (fun k => k = nb0) W).setCell (p := ⟨nb0, t, none⟩) (fun _ => rfl) _
  obtain ⟨z, hz⟩ := Option.isSome_iff_exists.1 (h.ne t ht).1
  have hsame : (W.setCell ⟨nb0, t, none⟩ (.string (nm t))).cell? ⟨nb0, t, none⟩ = some (.string (nm t)) := World.cell?_setCell_same _ _ _ hz
  refine ⟨⟨fun i hi => ho.cellv (h.bx i hi) (show ¬ bn = nb0 by omega), fun i hi => ?_, fun i hi => ?_, ho.obj h.mp (by omega), h.ky, fun i hi => ?_, h.b.trans (ho.below h.b.size (fun k hk => by omega))⟩, hsame⟩
  · rw [World.cell?_setCell_other _ _ _ _ (fun e => by cases e; omega)]; exact h.nd i hi
  · rw [World.frozen?_setCell]
    refine ⟨?_, (h.ne i hi).2⟩
    by_cases hit : i = t
    · subst hit; rw [hsame]; rfl
    · rw [World.cell?_setCell_other _ _ _ _ (fun e => hit (by cases e; rfl))]; exact (h.ne i hi).1
  · rcases h.pl i hi with k | ⟨g, cap, k1, k2, k3, k4⟩
    · exact .inl k
    · exact .inr ⟨g, cap, k1, k2, fun j hj => ho.cellv (k3 j hj) (show ¬ g = nb0 by omega), k4⟩

/-- Nothing of it is touched by what is laid behind it. -/
theorem L2.ot {w : World} {bn nb0 pm n : Nat} {px : Nat → List Nat} {t : Nat} {l : List (Nat × Value × Nat)} {c : Nat} {W W' : World} (h : L2 w bn nb0 pm n px t l c W) (hb : Below W.heap.size W W') : L2 w bn nb0 pm n px t l c W' := by
  have ho := Ot.of_below (fun _ => False) hb
  refine ⟨fun i hi => ho.cellv (h.bx i hi) (fun h => h), fun i hi => ho.cellv (h.nd i hi) (fun h => h), fun i hi => ?_, ho.obj h.mp (fun h => h), h.ky, fun i hi => ?_, below_next h.b hb⟩
  · obtain ⟨z, hz⟩ := Option.isSome_iff_exists.1 (h.ne i hi).1
    have hl := World.block_lt_of_cell? _ _ hz
    exact ⟨by rw [ho.cellv hz (fun h => h)]; rfl, (ho.frozen (p := ⟨nb0, i, none⟩) hl (fun h => h)).trans (h.ne i hi).2⟩
  · rcases h.pl i hi with k | ⟨g, cap, k1, k2, k3, k4⟩
    · exact .inl k
    · exact .inr ⟨g, cap, k1, k2, fun j hj => ho.cellv (k3 j hj) (fun h => h), k4⟩

/-- A node without a placement. -/
theorem L2.skip {w : World} {bn nb0 pm n : Nat} {px : Nat → List Nat} {t : Nat} {l : List (Nat × Value × Nat)} {c : Nat} {W : World} (h : L2 w bn nb0 pm n px t l c W) (hc : W.cell? ⟨nb0, t, none⟩ = some (.string (nm t))) (hp : px t = []) : L2 w bn nb0 pm n px (t + 1) l c W :=
  ⟨h.bx, fun i hi => by rcases Nat.lt_or_ge i t with k | k; exact h.nd i k; rw [show i = t by omega]; exact hc, h.ne, h.mp, fun e he => by have := h.ky e he; omega,
    fun i hi => by rcases Nat.lt_or_ge i t with k | k; exact h.pl i k; rw [show i = t by omega]; exact .inl ⟨lk_none (fun x hx => by have := h.ky x hx; omega), hp⟩, h.b⟩

/-- A node's placement is laid. -/
theorem L2.put {w : World} {bn nb0 pm n : Nat} {px : Nat → List Nat} {t : Nat} {l : List (Nat × Value × Nat)} {c : Nat} {W : World} (h : L2 w bn nb0 pm n px t l c W) (h0 : w.heap.size ≤ bn) (h1 : bn < nb0) (h2 : nb0 < pm) (hc : W.cell? ⟨nb0, t, none⟩ = some (.string (nm t)))
    {g cap : Nat} (hp : 0 < (px t).length) (hg : ∀ j, j < (px t).length → W.cell? ⟨g, j, none⟩ = some (.int .u64 ((px t).getD j 0))) (hpm : pm < g) :
    L2 w bn nb0 pm n px (t + 1) (upd t (.slice (some ⟨g, 0, none⟩) (px t).length cap) c l) (updc t c l) (setBlock W pm (mobj sk id (upd t (.slice (some ⟨g, 0, none⟩) (px t).length cap) c l) (updc t c l))) := by
  have ho : Ot (fun k => k = pm) W (setBlock W pm (mobj sk id (upd t (.slice (some ⟨g, 0, none⟩) (px t).length cap) c l) (updc t c l))) := (Ot.refl _ W).setBlock pm _ (fun _ => rfl)
  refine ⟨fun i hi => ho.cellv (h.bx i hi) (show ¬ bn = pm by omega), fun i hi => ?_, fun i hi => ?_, heap_setBlock_eq _ _ _ (lt_of_block h.mp), upd_keys t _ c (t + 1) (by omega) l (fun e he => by have := h.ky e he; omega), fun i hi => ?_, h.b.trans (ho.below h.b.size (fun k hk => by omega))⟩
  · refine ho.cellv ?_ (show ¬ nb0 = pm by omega)
    rcases Nat.lt_or_ge i t with k | k
    · exact h.nd i k
    · rw [show i = t by omega]; exact hc
  · obtain ⟨z, hz⟩ := Option.isSome_iff_exists.1 (h.ne i hi).1
    have hl := World.block_lt_of_cell? _ _ hz
    exact ⟨by rw [ho.cellv hz (show ¬ nb0 = pm by omega)]; rfl, (ho.frozen (p := ⟨nb0, i, none⟩) hl (show ¬ nb0 = pm by omega)).trans (h.ne i hi).2⟩
  · rw [lk_upd]
    rcases Nat.lt_or_ge i t with k | k
    · rw [if_neg (by omega)]
      rcases h.pl i k with k | ⟨g', cap', k1, k2, k3, k4⟩
      · exact .inl k
      · exact .inr ⟨g', cap', k1, k2, fun j hj => ho.cellv (k3 j hj) (show ¬ g' = pm by omega), k4⟩
    · have hit : i = t := by omega
      subst hit
      rw [if_pos rfl]
      exact .inr ⟨g, cap, rfl, hp, fun j hj => ho.cellv (hg j hj) (show ¬ g = pm by omega), hpm⟩

set_option maxHeartbeats 4000000 in
set_option maxRecDepth 1000000 in
theorem st2 {x0 x1 x3 x4 x5 x6 x7 x8 x9 x10 x13 x14 x15 x19 x20 x21 x22 x23 x24 x25 x26 x27 x28 x29 x30 x31 x32 x33 x34 x35 x36 x37 x38 x39 x40 x41 x42 x43 x44 x45 x46 x47 x48 x49 x50 x51 x52 x53 x54 x55 x56 x57 x58 x59 x60 x61 x62 x63 x64 x65 x66 x67 x68 x69 x70 x71 x72 x73 x74 x75 x76 x77 x78 x79 x80 x81 x82 x83 x84 x85 x86 x87 x88 x89 x90 x91 x92 x93 x94 x95 x96 x97 x98 x99 x100 x101 x102 x103 x104 x105 x106 x107 x108 x109 x110 x111 x112 x113 x114 x115 x116 x117 x118 x119 x120 x121 x122 x123 x124 x125 x126 x127 x128 x129 x130 x131 x132 x133 x134 x135 x136 x137 x138 x139 x140 x141 x142 x143 x144 x145 x146 x147 x148 x149 x150 x151 x152 x153 x154 x155 x156 x157 x158 x159 x160 x161 x162 x163 x164 x165 x166 x167 x168 x169 x170 x171 x172 x173 x174 x175 x176 x177 x178 x179 x180 x181 x182 x183 x184 x185 x186 x187 x188 x189 x190 x191 x192 x193 x194 x195 x196 x197 x198 x199 x200 x201 x202 x203 x204 x205 x206 x207 x208 x209 x210 x211 x212 x213 x214 x215 x216 x217 x218 x219 x220 x221 x222 x223 x224 x225 x226 x227 x228 x229 x230 x231 x232 x233 x234 x235 x236 x237 x238 x239 x240 x241 x242 x243 x244 x245 x246 x247 x248 x249 x250 x251 x252 x253 x254 x255 x256 x257 x258 x259 x260 x261 x262 x263 x264 x265 x266 x267 x268 x269 x270 x271 x272 x273 x274 x275 x276 x277 x278 x279 x280 x281 x282 x283 x284 x285 x286 x287 x288 x289 x290 x291 x292 x293 x294 x295 x296 x297 x298 x299 x300 x301 x302 x303 x304 x305 x306 x307 x308 x309 x310 x311 x312 x313 x314 x315 x316 x317 x318 x319 x320 x321 x322 x323 x324 x325 x326 x327 x328 x329 x330 x331 x332 x333 x334 x335 x336 x337 x338 x339 x340 x341 x342 x343 x344 x345 x346 x347 x348 x349 x350 x351 x352 x353 x354 x355 x356 x357 x358 x359 x360 x361 x362 x363 x364 x365 x366 x367 x368 x369 x370 x371 x372 x373 x374 x375 x376 x377 x378 x379 x380 x381 x382 x383 x384 x385 x386 x387 x388 x389 x390 x391 x392 x393 : Value} {pa : Option Addr} {P pc n bn nb0 pm : Nat} {X : List (List Nat)} (w W : World) (Q : Exit → Act → World → Prop) (hX : PlIn w pa X) (hP : X.length = P) (hn4 : n ≤ 4) (hP64 : P ≤ 9223372036854775807) (hXl : ∀ i, i < n → (X.getD i []).length ≤ 4096) (h0 : w.heap.size ≤ bn) (h1 : bn < nb0) (h2 : nb0 < pm) (hL : L2 w bn nb0 pm n (fun i => (X.getD i []).map mulc) 0 [] 0 W)
    (hQ : ∀ (u18 u19 u20 u75 u76 u77 u78 u79 u80 u81 u82 u83 u84 u85 u86 u87 u88 u89 u90 u91 u92 u93 u94 u95 u96 u97 u98 u99 u100 u101 u102 u103 u104 u105 u106 u107 u108 u109 u110 u111 u112 u113 u114 u115 u116 u117 u118 u119 u120 u121 u122 u123 u124 u125 u126 u127 u128 : Value) (wc : World), (∃ l c, L2 w bn nb0 pm n (fun i => (X.getD i []).map mulc) n l c wc) → Q .normal ⟨#[x0, x1, .slice pa P pc, x3, x4, x5, x6, x7, x8, x9, x10, .pointer (some ⟨bn, 0, none⟩), .int .i64 (n : Nat), x13, x14, x15, .slice (some ⟨nb0, 0, none⟩) n n, .map (some pm), u18, u19, u20, x21, x22, x23, x24, x25, x26, x27, x28, x29, x30, x31, x32, x33, x34, x35, x36, x37, x38, x39, x40, x41, x42, x43, x44, x45, x46, x47, x48, x49, x50, x51, x52, x53, x54, x55, x56, x57, x58, x59, x60, x61, x62, x63, x64, x65, x66, x67, x68, x69, x70, x71, x72, x73, x74, u75, u76, u77, u78, u79, u80, u81, u82, u83, u84, u85, u86, u87, u88, u89, u90, u91, u92, u93, u94, u95, u96, u97, u98, u99, u100, u101, u102, u103, u104, u105, u106, u107, u108, u109, u110, u111, u112, u113, u114, u115, u116, u117, u118, u119, u120, u121, u122, u123, u124, u125, u126, u127, u128, x129, x130, x131, x132, x133, x134, x135, x136, x137, x138, x139, x140, x141, x142, x143, x144, x145, x146, x147, x148, x149, x150, x151, x152, x153, x154, x155, x156, x157, x158, x159, x160, x161, x162, x163, x164, x165, x166, x167, x168, x169, x170, x171, x172, x173, x174, x175, x176, x177, x178, x179, x180, x181, x182, x183, x184, x185, x186, x187, x188, x189, x190, x191, x192, x193, x194, x195, x196, x197, x198, x199, x200, x201, x202, x203, x204, x205, x206, x207, x208, x209, x210, x211, x212, x213, x214, x215, x216, x217, x218, x219, x220, x221, x222, x223, x224, x225, x226, x227, x228, x229, x230, x231, x232, x233, x234, x235, x236, x237, x238, x239, x240, x241, x242, x243, x244, x245, x246, x247, x248, x249, x250, x251, x252, x253, x254, x255, x256, x257, x258, x259, x260, x261, x262, x263, x264, x265, x266, x267, x268, x269, x270, x271, x272, x273, x274, x275, x276, x277, x278, x279, x280, x281, x282, x283, x284, x285, x286, x287, x288, x289, x290, x291, x292, x293, x294, x295, x296, x297, x298, x299, x300, x301, x302, x303, x304, x305, x306, x307, x308, x309, x310, x311, x312, x313, x314, x315, x316, x317, x318, x319, x320, x321, x322, x323, x324, x325, x326, x327, x328, x329, x330, x331, x332, x333, x334, x335, x336, x337, x338, x339, x340, x341, x342, x343, x344, x345, x346, x347, x348, x349, x350, x351, x352, x353, x354, x355, x356, x357, x358, x359, x360, x361, x362, x363, x364, x365, x366, x367, x368, x369, x370, x371, x372, x373, x374, x375, x376, x377, x378, x379, x380, x381, x382, x383, x384, x385, x386, x387, x388, x389, x390, x391, x392, x393], []⟩ wc) :
    Code.wp Ybaf.prog ((Ybaf.f3.body.bind (blk 2)).getD .skip) Q ⟨#[x0, x1, .slice pa P pc, x3, x4, x5, x6, x7, x8, x9, x10, .pointer (some ⟨bn, 0, none⟩), .int .i64 (n : Nat), x13, x14, x15, .slice (some ⟨nb0, 0, none⟩) n n, .map (some pm), .int .i64 0, x19, x20, x21, x22, x23, x24, x25, x26, x27, x28, x29, x30, x31, x32, x33, x34, x35, x36, x37, x38, x39, x40, x41, x42, x43, x44, x45, x46, x47, x48, x49, x50, x51, x52, x53, x54, x55, x56, x57, x58, x59, x60, x61, x62, x63, x64, x65, x66, x67, x68, x69, x70, x71, x72, x73, x74, x75, x76, x77, x78, x79, x80, x81, x82, x83, x84, x85, x86, x87, x88, x89, x90, x91, x92, x93, x94, x95, x96, x97, x98, x99, x100, x101, x102, x103, x104, x105, x106, x107, x108, x109, x110, x111, x112, x113, x114, x115, x116, x117, x118, x119, x120, x121, x122, x123, x124, x125, x126, x127, x128, x129, x130, x131, x132, x133, x134, x135, x136, x137, x138, x139, x140, x141, x142, x143, x144, x145, x146, x147, x148, x149, x150, x151, x152, x153, x154, x155, x156, x157, x158, x159, x160, x161, x162, x163, x164, x165, x166, x167, x168, x169, x170, x171, x172, x173, x174, x175, x176, x177, x178, x179, x180, x181, x182, x183, x184, x185, x186, x187, x188, x189, x190, x191, x192, x193, x194, x195, x196, x197, x198, x199, x200, x201, x202, x203, x204, x205, x206, x207, x208, x209, x210, x211, x212, x213, x214, x215, x216, x217, x218, x219, x220, x221, x222, x223, x224, x225, x226, x227, x228, x229, x230, x231, x232, x233, x234, x235, x236, x237, x238, x239, x240, x241, x242, x243, x244, x245, x246, x247, x248, x249, x250, x251, x252, x253, x254, x255, x256, x257, x258, x259, x260, x261, x262, x263, x264, x265, x266, x267, x268, x269, x270, x271, x272, x273, x274, x275, x276, x277, x278, x279, x280, x281, x282, x283, x284, x285, x286, x287, x288, x289, x290, x291, x292, x293, x294, x295, x296, x297, x298, x299, x300, x301, x302, x303, x304, x305, x306, x307, x308, x309, x310, x311, x312, x313, x314, x315, x316, x317, x318, x319, x320, x321, x322, x323, x324, x325, x326, x327, x328, x329, x330, x331, x332, x333, x334, x335, x336, x337, x338, x339, x340, x341, x342, x343, x344, x345, x346, x347, x348, x349, x350, x351, x352, x353, x354, x355, x356, x357, x358, x359, x360, x361, x362, x363, x364, x365, x366, x367, x368, x369, x370, x371, x372, x373, x374, x375, x376, x377, x378, x379, x380, x381, x382, x383, x384, x385, x386, x387, x388, x389, x390, x391, x392, x393], []⟩ W := by
  conv => arg 2; whnf
  have HQ := hide hQ
  have HX := hide hX
  have HP := hide hP
  have HL := hide hL
  have HXL := hide hXl
  clear hQ hX hP hL hXl
  go_wp2_with fail
  go_loopg [18] n (fun kx v18 wr => ∃ (t : Nat) (l : List (Nat × Value × Nat)) (c : Nat), v18 = .int .i64 t ∧ t ≤ n ∧ n - t ≤ kx ∧ L2 w bn nb0 pm n (fun i => (X.getD i []).map mulc) t l c wr)
  case atStart => exact ⟨0, [], 0, rfl, Nat.zero_le _, Nat.le_refl _, HL.out⟩
  case round =>
    obtain ⟨t, l, c, rfl, htn, htk, hL⟩ := hrel
    by_cases hlt : t < n
    · have hlti : (t : Int) < n := by omega
      have ht4i : (t : Int) < 4 := by omega
      have hbx := hL.bx t (by omega)
      obtain ⟨z, hz⟩ := Option.isSome_iff_exists.1 (hL.ne t hlt).1
      have hzf := (hL.ne t hlt).2
      obtain ⟨hL1, hc1⟩ := hL.name h0 h1 h2 hlt
      have hbx1 := hL1.bx t (by omega)
      obtain ⟨W1, hW1⟩ : ∃ W1, W1 = wr.setCell ⟨nb0, t, none⟩ (.string (nm t)) := ⟨_, rfl⟩
      have HL1 := hide (And.intro hL1 hc1)
      clear hL hL1 hc1
      go_upto_region 19 with (fail)
      rw [← hW1] at HL1 hbx1 ⊢
      clear hW1 hz hzf hbx
      by_cases hltP : t < P
      · have hltPi : (t : Int) < P := by omega
        obtain ⟨b, o, rfl, hcell⟩ := HX.out (by rw [HP.out]; omega)
        obtain ⟨v, hv, ao, cap, rfl, hrow⟩ := hcell t (by rw [HP.out]; exact hltP)
        have hvl := World.block_lt_of_cell? _ _ hv
        dsimp only at hvl
        have hv1 := (HL1.out.1.b.cell (p := ⟨b, o + t, none⟩) hvl).trans hv
        have hm4 := HXL.out t hlt
        obtain ⟨m, hm⟩ : ∃ m, m = (X.getD t []).length := ⟨_, rfl⟩
        rw [← hm] at hv1 hm4
        by_cases hm0 : 0 < m
        · have hm0i : (0 : Int) < m := by omega
          obtain ⟨g2, o2, rfl, hx⟩ := hrow (by omega)
          have hg2l := World.block_lt_of_cell? _ _ (hx 0 (by omega))
          dsimp only at hg2l
          obtain ⟨Z, hZs, hZ, hmk⟩ := make25 m (by omega)
          have hmk1 := hmk W1
          have hfr := fresh_copy (W := W1) (b := W1.heap.size) (e := 28) (Z := Z) (cs := []) rfl (by simp)
          have hbl1 := below_alloc W1 (.cells Z 28)
          have hL2 := HL1.out.1.ot hbl1
          have hc2 := (hbl1.cell (World.block_lt_of_cell? _ _ HL1.out.2)).trans HL1.out.2
          have hv2 := (hbl1.cell (World.block_lt_of_cell? _ _ hv1)).trans hv1
          have hbs := HL1.out.1.b.size
          have hx2 : ∀ j, j < m → (W1.alloc (.cells Z 28)).cell? ⟨g2, o2 + j, none⟩ = some (.int .u64 ((X.getD t []).getD j 0)) := fun j hj => (hL2.b.cell (p := ⟨g2, o2 + j, none⟩) hg2l).trans (hx j (by omega))
          have hz2 : ∀ j, j < m → ((W1.alloc (.cells Z 28)).cell? ⟨W1.heap.size, j, none⟩).isSome = true ∧ (W1.alloc (.cells Z 28)).frozen? ⟨W1.heap.size, j, none⟩ = false := fun j hj =>
            ⟨by rw [World.cell?_alloc_at _ _ _ _ rfl, hZ j hj]; rfl, World.frozen?_alloc_at _ _ _ _ rfl⟩
          have hpml : pm < W1.heap.size := lt_of_block HL1.out.1.mp
          obtain ⟨W2, hW2⟩ : ∃ W2, W2 = W1.alloc (.cells Z 28) := ⟨_, rfl⟩
          obtain ⟨g, hg⟩ : ∃ g, g = W1.heap.size := ⟨_, rfl⟩
          have HM := hide hm
          have HF : Hid (∀ W3, Ot (fun k => k = g) W2 W3 → L2 w bn nb0 pm n (fun i => (X.getD i []).map mulc) t l c W3 ∧ W3.cell? ⟨nb0, t, none⟩ = some (.string (nm t))) := hide (fun W3 ho => by
            have hb : Below W1.heap.size W1 W3 := by
              rw [hW2] at ho
              exact (below_alloc W1 _).trans (ho.below (by simp) (fun k hk => by omega))
            exact ⟨HL1.out.1.ot hb, (hb.cell (World.block_lt_of_cell? _ _ HL1.out.2)).trans HL1.out.2⟩)
          have HA := hide (And.intro hL2 (And.intro hc2 (And.intro hv2 (And.intro hx2 hz2))))
          have hbg : b ≠ g := by omega
          have hg2g : g2 ≠ g := by omega
          have hpg : pm < g := by omega
          have hgs : g < W2.heap.size := by rw [hW2, hg]; simp
          clear hmk hfr hbl1 hL2 hc2 hv2 hx2 hz2 hm hcell hrow hx hZ
          go_upto_block 4 with (fail)
          rw [← hW2, ← hg] at *
          obtain ⟨hL2, hc2, hv2, hx2, hz2⟩ := HA.out
          refine st3 W2 _ HM.out.symm hm4 hltP hv2 hx2 hz2 hbg hg2g ?_
          clear hL2 hc2 hv2 hx2 hz2 hv1 hmk1
          intros
          rename_i W3 hpost
          dsimp only
          obtain ⟨hc3, ho3⟩ := hpost
          obtain ⟨hL3, hn3⟩ := HF.out W3 ho3
          have hlen : ((X.getD t []).map mulc).length = m := by rw [List.length_map, HM.out]
          have hput := hL3.put h0 h1 h2 hn3 (g := g) (cap := m) (show 0 < ((X.getD t []).map mulc).length by omega) (fun j hj => by
            have hj' : j < m := by rw [← hlen]; exact hj
            have hjx : j < (X.getD t []).length := by rw [← HM.out]; exact hj'
            rw [hc3 j hj']
            rw [getD_map_lt mulc _ j hjx]) hpg
          (try dsimp only at hput)
          rw [hlen] at hput
          have hup := run_update_mine (P := Ybaf.prog) (w := W3) (t := 27) (V := id) Ybaf.underlying27 keys9 (show t < 4 by omega) (fun e he => by have := hL3.ky e he; omega) hL3.mp (Value.slice (some ⟨g, 0, none⟩) m m)
          have hbx3 := hL3.bx t (by omega)
          simp only [sk, id] at hup
          have HPUT := hide hput
          clear hput hc3 ho3 hL3 hn3 HA HF hbx1
          go_wp2_with fail
          go_roundg (n - (t + 1))
          case measure => omega
          case rel => exact ⟨t + 1, _, _, by go_num, by omega, Nat.le_refl _, HPUT.out⟩
        · have hm0i : ¬ (0 : Int) < m := by omega
          have HM := hide hm
          clear hm hcell hrow
          go_wp2_with fail
          go_roundg (n - (t + 1))
          case measure => omega
          case rel =>
            refine ⟨t + 1, l, c, by go_num, by omega, Nat.le_refl _, HL1.out.1.skip HL1.out.2 ?_⟩
            have : X.getD t [] = [] := List.eq_nil_of_length_eq_zero (by rw [← HM.out]; omega)
            rw [this]; rfl
      · have hltPi : ¬ (t : Int) < P := by omega
        go_wp2_with fail
        go_roundg (n - (t + 1))
        case measure => omega
        case rel =>
          refine ⟨t + 1, l, c, by go_num, by omega, Nat.le_refl _, HL1.out.1.skip HL1.out.2 ?_⟩
          have : X.getD t [] = [] := by
            rw [List.getD_eq_getElem?_getD, List.getElem?_eq_none (by rw [HP.out]; omega)]; rfl
          rw [this]; rfl
    · have hlti : ¬ (t : Int) < n := by omega
      have htn' : t = n := by omega
      subst htn'
      go_wp2_with fail
      refine HQ.out _ _ _ _ _ _ _ _ _ _ _ _ _ _ _ _ _ _ _ _ _ _ _ _ _ _ _ _ _ _ _ _ _ _ _ _ _ _ _ _ _ _ _ _ _ _ _ _ _ _ _ _ _ _ _ _ _ _ ?_
      exact ⟨l, c, hL⟩

end Go.Proofs.YbulkdjggFmt
