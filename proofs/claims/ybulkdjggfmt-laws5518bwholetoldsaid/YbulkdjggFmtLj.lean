/-
  THE LAW (func 3): the tenth loop (block 18): the positions given.
-/
import Derived.Test.YbulkdjggFmtLa
namespace Go.Proofs.YbulkdjggFmt
open Go.RowKit Go.Sort Go.ChangeMaps

set_option maxHeartbeats 4000000 in
set_option maxRecDepth 1000000 in
theorem st10 {x0 x1 x2 x3 x4 x5 x6 x7 x8 x9 x10 x11 x12 x13 x14 x15 x16 x17 x18 x19 x20 x22 x23 x24 x25 x26 x28 x29 x30 x31 x32 x33 x34 x35 x36 x37 x38 x40 x41 x42 x43 x44 x45 x46 x47 x48 x49 x50 x51 x52 x53 x54 x55 x56 x57 x58 x59 x60 x61 x62 x63 x64 x65 x66 x67 x68 x69 x70 x71 x72 x73 x74 x75 x76 x77 x78 x79 x80 x81 x82 x83 x84 x85 x86 x87 x88 x89 x90 x91 x92 x93 x94 x95 x96 x97 x98 x99 x100 x101 x102 x103 x104 x105 x106 x107 x108 x109 x110 x111 x112 x113 x114 x115 x116 x117 x118 x119 x120 x121 x122 x123 x124 x125 x126 x127 x128 x129 x130 x131 x132 x133 x134 x135 x136 x137 x138 x139 x140 x141 x142 x143 x144 x145 x146 x147 x148 x149 x150 x151 x152 x153 x154 x155 x156 x157 x158 x159 x160 x161 x162 x163 x164 x165 x166 x167 x168 x169 x170 x171 x172 x173 x174 x175 x176 x177 x178 x179 x180 x181 x182 x183 x184 x185 x186 x187 x188 x189 x190 x191 x192 x193 x194 x195 x196 x197 x198 x199 x200 x201 x202 x203 x204 x205 x206 x207 x208 x209 x210 x211 x212 x213 x214 x215 x216 x217 x218 x219 x220 x221 x222 x223 x224 x225 x226 x227 x228 x229 x230 x231 x232 x233 x234 x235 x236 x237 x238 x239 x240 x241 x242 x243 x244 x245 x246 x247 x248 x249 x250 x251 x252 x253 x254 x255 x256 x257 x258 x259 x260 x261 x262 x263 x264 x265 x266 x267 x268 x269 x270 x271 x272 x273 x274 x275 x276 x277 x278 x279 x280 x281 x282 x283 x284 x285 x286 x287 x288 x289 x290 x291 x292 x293 x294 x295 x296 x297 x298 x299 x300 x301 x302 x303 x304 x305 x306 x307 x308 x309 x310 x311 x312 x313 x314 x315 x316 x317 x318 x319 x320 x321 x322 x323 x324 x325 x326 x327 x328 x329 x330 x331 x332 x333 x334 x335 x336 x337 x338 x339 x340 x341 x342 x343 x344 x345 x346 x347 x348 x349 x350 x351 x352 x353 x354 x355 x356 x357 x358 x359 x360 x361 x362 x363 x364 x365 x366 x367 x368 x369 x370 x371 x372 x373 x374 x375 x376 x377 x378 x379 x380 x381 x382 x383 x384 x385 x386 x387 x388 x389 x390 x391 x392 x393 : Value} {R ob n ob2 : Nat} {ov ow : Nat → Value} {px : Nat → List Nat} (W : World) (Q : Exit → Act → World → Prop) (hn4 : n ≤ 4) (h0 : W.cell? ⟨R, 2, none⟩ = some (.slice (some ⟨ob, 0, none⟩) n n)) (h1 : ∀ j, j < n → W.cell? ⟨ob, j, none⟩ = some (ov j)) (h2 : ∀ j, j < n → W.cell? ⟨ob2, j, none⟩ = some (ow j)) (r1 : ∀ j, j < n → Rd W (ov j) (px j)) (r2 : ∀ j, j < n → Rd W (ow j) (px j)) (hl : ∀ j, (px j).length ≤ 4096)
    (hQ : ∀ (u10 u39 u375 u376 u377 u378 u379 u380 u381 u382 u383 u384 u385 u386 u387 u388 u389 u390 u391 u392 u393 : Value) (wc : World), (Ot (fun _ => False) W wc) → Q .normal ⟨#[x0, x1, x2, x3, x4, x5, x6, x7, x8, x9, u10, x11, x12, x13, x14, x15, x16, x17, x18, x19, x20, .pointer (some ⟨R, 0, none⟩), x22, x23, x24, x25, x26, .slice (some ⟨ob2, 0, none⟩) n n, x28, x29, x30, x31, x32, x33, x34, x35, x36, x37, x38, u39, x40, x41, x42, x43, x44, x45, x46, x47, x48, x49, x50, x51, x52, x53, x54, x55, x56, x57, x58, x59, x60, x61, x62, x63, x64, x65, x66, x67, x68, x69, x70, x71, x72, x73, x74, x75, x76, x77, x78, x79, x80, x81, x82, x83, x84, x85, x86, x87, x88, x89, x90, x91, x92, x93, x94, x95, x96, x97, x98, x99, x100, x101, x102, x103, x104, x105, x106, x107, x108, x109, x110, x111, x112, x113, x114, x115, x116, x117, x118, x119, x120, x121, x122, x123, x124, x125, x126, x127, x128, x129, x130, x131, x132, x133, x134, x135, x136, x137, x138, x139, x140, x141, x142, x143, x144, x145, x146, x147, x148, x149, x150, x151, x152, x153, x154, x155, x156, x157, x158, x159, x160, x161, x162, x163, x164, x165, x166, x167, x168, x169, x170, x171, x172, x173, x174, x175, x176, x177, x178, x179, x180, x181, x182, x183, x184, x185, x186, x187, x188, x189, x190, x191, x192, x193, x194, x195, x196, x197, x198, x199, x200, x201, x202, x203, x204, x205, x206, x207, x208, x209, x210, x211, x212, x213, x214, x215, x216, x217, x218, x219, x220, x221, x222, x223, x224, x225, x226, x227, x228, x229, x230, x231, x232, x233, x234, x235, x236, x237, x238, x239, x240, x241, x242, x243, x244, x245, x246, x247, x248, x249, x250, x251, x252, x253, x254, x255, x256, x257, x258, x259, x260, x261, x262, x263, x264, x265, x266, x267, x268, x269, x270, x271, x272, x273, x274, x275, x276, x277, x278, x279, x280, x281, x282, x283, x284, x285, x286, x287, x288, x289, x290, x291, x292, x293, x294, x295, x296, x297, x298, x299, x300, x301, x302, x303, x304, x305, x306, x307, x308, x309, x310, x311, x312, x313, x314, x315, x316, x317, x318, x319, x320, x321, x322, x323, x324, x325, x326, x327, x328, x329, x330, x331, x332, x333, x334, x335, x336, x337, x338, x339, x340, x341, x342, x343, x344, x345, x346, x347, x348, x349, x350, x351, x352, x353, x354, x355, x356, x357, x358, x359, x360, x361, x362, x363, x364, x365, x366, x367, x368, x369, x370, x371, x372, x373, x374, u375, u376, u377, u378, u379, u380, u381, u382, u383, u384, u385, u386, u387, u388, u389, u390, u391, u392, u393], []⟩ wc) :
    Code.wp Ybaf.prog ((Ybaf.f3.body.bind (blk 18)).getD .skip) Q ⟨#[x0, x1, x2, x3, x4, x5, x6, x7, x8, x9, x10, x11, x12, x13, x14, x15, x16, x17, x18, x19, x20, .pointer (some ⟨R, 0, none⟩), x22, x23, x24, x25, x26, .slice (some ⟨ob2, 0, none⟩) n n, x28, x29, x30, x31, x32, x33, x34, x35, x36, x37, x38, .int .i64 0, x40, x41, x42, x43, x44, x45, x46, x47, x48, x49, x50, x51, x52, x53, x54, x55, x56, x57, x58, x59, x60, x61, x62, x63, x64, x65, x66, x67, x68, x69, x70, x71, x72, x73, x74, x75, x76, x77, x78, x79, x80, x81, x82, x83, x84, x85, x86, x87, x88, x89, x90, x91, x92, x93, x94, x95, x96, x97, x98, x99, x100, x101, x102, x103, x104, x105, x106, x107, x108, x109, x110, x111, x112, x113, x114, x115, x116, x117, x118, x119, x120, x121, x122, x123, x124, x125, x126, x127, x128, x129, x130, x131, x132, x133, x134, x135, x136, x137, x138, x139, x140, x141, x142, x143, x144, x145, x146, x147, x148, x149, x150, x151, x152, x153, x154, x155, x156, x157, x158, x159, x160, x161, x162, x163, x164, x165, x166, x167, x168, x169, x170, x171, x172, x173, x174, x175, x176, x177, x178, x179, x180, x181, x182, x183, x184, x185, x186, x187, x188, x189, x190, x191, x192, x193, x194, x195, x196, x197, x198, x199, x200, x201, x202, x203, x204, x205, x206, x207, x208, x209, x210, x211, x212, x213, x214, x215, x216, x217, x218, x219, x220, x221, x222, x223, x224, x225, x226, x227, x228, x229, x230, x231, x232, x233, x234, x235, x236, x237, x238, x239, x240, x241, x242, x243, x244, x245, x246, x247, x248, x249, x250, x251, x252, x253, x254, x255, x256, x257, x258, x259, x260, x261, x262, x263, x264, x265, x266, x267, x268, x269, x270, x271, x272, x273, x274, x275, x276, x277, x278, x279, x280, x281, x282, x283, x284, x285, x286, x287, x288, x289, x290, x291, x292, x293, x294, x295, x296, x297, x298, x299, x300, x301, x302, x303, x304, x305, x306, x307, x308, x309, x310, x311, x312, x313, x314, x315, x316, x317, x318, x319, x320, x321, x322, x323, x324, x325, x326, x327, x328, x329, x330, x331, x332, x333, x334, x335, x336, x337, x338, x339, x340, x341, x342, x343, x344, x345, x346, x347, x348, x349, x350, x351, x352, x353, x354, x355, x356, x357, x358, x359, x360, x361, x362, x363, x364, x365, x366, x367, x368, x369, x370, x371, x372, x373, x374, x375, x376, x377, x378, x379, x380, x381, x382, x383, x384, x385, x386, x387, x388, x389, x390, x391, x392, x393], []⟩ W := by
  conv => arg 2; whnf
  have HQ := hide hQ
  have HF := hide (And.intro h0 (And.intro h1 (And.intro h2 (And.intro r1 (And.intro r2 hl)))))
  clear hQ h0 h1 h2 r1 r2 hl
  go_wp2_with fail
  go_loopg [39] n (fun kx v wr => ∃ j : Nat, v = .int .i64 j ∧ j ≤ n ∧ n - j ≤ kx ∧ Ot (fun _ => False) W wr)
  case atStart => exact ⟨0, rfl, Nat.zero_le _, Nat.le_refl _, Ot.refl _ _⟩
  case round =>
    obtain ⟨j, rfl, hjm, hjk, ho⟩ := hrel
    by_cases hlt : j < n
    · have hlti : (j : Int) < n := by omega
      obtain ⟨h0, h1, h2, r1, r2, hl⟩ := HF.out
      have HS : Hid (∀ W', Ot (fun _ => False) W W' → W'.cell? ⟨R, 2, none⟩ = some (.slice (some ⟨ob, 0, none⟩) n n) ∧ W'.cell? ⟨ob, j, none⟩ = some (ov j) ∧ W'.cell? ⟨ob2, j, none⟩ = some (ow j) ∧ Ot (fun _ => False) W W') :=
        hide (fun W' h => ⟨h.cellv h0 (fun h => h), h.cellv (h1 j hlt) (fun h => h), h.cellv (h2 j hlt) (fun h => h), h⟩)
      have HC : Hid (∀ W', Ot (fun _ => False) W W' → Calls Ybaf.prog 8 #[ov j, ow j] W' fun e w' => e = .returned (.bool true) ∧ ∃ q, w' = W'.drewN q) :=
        hide (fun W' h => same_at (ov j) (ow j) (px j) W' ((r1 j hlt).ot h (fun _ _ h => h)) ((r2 j hlt).ot h (fun _ _ h => h)) (by have := hl j; omega))
      clear h0 h1 h2 r1 r2 hl
      generalize ov j = v1 at *
      generalize ow j = v2 at *
      go_upto_region 81 with (fail)
      go_region_held3 (fun W' => W'.cell? ⟨R, 2, none⟩ = some (.slice (some ⟨ob, 0, none⟩) n n) ∧ W'.cell? ⟨ob, j, none⟩ = some v1 ∧ W'.cell? ⟨ob2, j, none⟩ = some v2 ∧ Ot (fun _ => False) W W')
        ((refine unhide HS _ ?_
          go_split_ands
          first
            | assumption
            | (exact Ot.drew (by assumption))
            | (exact Ot.drewN (by assumption) _)))
        (first
          | (go_at_call 8; refine (unhide HC _ (by go_split_ands; assumption)).mono ?_; rintro e w' ⟨rfl, q, rfl⟩))
      all_goals
        go_wp2_with fail
        go_roundg (n - (j + 1))
        case measure => omega
        case rel => exact ⟨j + 1, by go_num, by omega, Nat.le_refl _, by go_split_ands; assumption⟩
    · have hlti : ¬ (j : Int) < n := by omega
      go_wp2_with fail
      refine HQ.out _ _ _ _ _ _ _ _ _ _ _ _ _ _ _ _ _ _ _ _ _ _ ?_
      exact ho

end Go.Proofs.YbulkdjggFmt
