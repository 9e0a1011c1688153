/-
  THE LAW (func 3): the loop within the second (block 4): a node's positions.
-/
import Derived.Test.YbulkdjggFmtLa
namespace Go.Proofs.YbulkdjggFmt
open Go.RowKit Go.Sort Go.ChangeMaps

/-- The law's own positions. -/
def mulc (x : Nat) : Nat := 1229782938247303441 * x % 18446744073709551616
theorem mulc_int (x : Nat) : IntKind.u64.wrap ((x : Int) * 1229782938247303441) = (mulc x : Nat) := by
  simp only [IntKind.wrap_u64, mulc]; omega
theorem mulc_lt (x : Nat) : mulc x < 18446744073709551616 := Nat.mod_lt _ (by omega)

set_option maxHeartbeats 4000000 in
set_option maxRecDepth 1000000 in
theorem st3 {x0 x1 x3 x4 x5 x6 x7 x8 x9 x10 x11 x12 x13 x14 x15 x16 x17 x21 x22 x23 x24 x25 x26 x27 x28 x29 x30 x31 x32 x33 x34 x35 x36 x37 x38 x39 x40 x41 x42 x43 x44 x45 x46 x47 x48 x49 x50 x51 x52 x53 x54 x55 x56 x57 x58 x59 x60 x61 x62 x63 x64 x65 x66 x67 x68 x69 x70 x71 x72 x73 x74 x75 x76 x77 x78 x79 x80 x81 x82 x83 x84 x85 x86 x87 x88 x89 x90 x91 x92 x93 x94 x95 x96 x97 x98 x99 x100 x101 x102 x103 x104 x105 x106 x107 x108 x109 x110 x111 x112 x113 x114 x115 x116 x117 x118 x119 x120 x121 x122 x123 x124 x125 x126 x127 x128 x129 x130 x131 x132 x133 x134 x135 x136 x137 x138 x139 x140 x141 x142 x143 x144 x145 x146 x147 x148 x149 x150 x151 x152 x153 x154 x155 x156 x157 x158 x159 x160 x161 x162 x163 x164 x165 x166 x167 x168 x169 x170 x171 x172 x173 x174 x175 x176 x177 x178 x179 x180 x181 x182 x183 x184 x185 x186 x187 x188 x189 x190 x191 x192 x193 x194 x195 x196 x197 x198 x199 x200 x201 x202 x203 x204 x205 x206 x207 x208 x209 x210 x211 x212 x213 x214 x215 x216 x217 x218 x219 x220 x221 x222 x223 x224 x225 x226 x227 x228 x229 x230 x231 x232 x233 x234 x235 x236 x237 x238 x239 x240 x241 x242 x243 x244 x245 x246 x247 x248 x249 x250 x251 x252 x253 x254 x255 x256 x257 x258 x259 x260 x261 x262 x263 x264 x265 x266 x267 x268 x269 x270 x271 x272 x273 x274 x275 x276 x277 x278 x279 x280 x281 x282 x283 x284 x285 x286 x287 x288 x289 x290 x291 x292 x293 x294 x295 x296 x297 x298 x299 x300 x301 x302 x303 x304 x305 x306 x307 x308 x309 x310 x311 x312 x313 x314 x315 x316 x317 x318 x319 x320 x321 x322 x323 x324 x325 x326 x327 x328 x329 x330 x331 x332 x333 x334 x335 x336 x337 x338 x339 x340 x341 x342 x343 x344 x345 x346 x347 x348 x349 x350 x351 x352 x353 x354 x355 x356 x357 x358 x359 x360 x361 x362 x363 x364 x365 x366 x367 x368 x369 x370 x371 x372 x373 x374 x375 x376 x377 x378 x379 x380 x381 x382 x383 x384 x385 x386 x387 x388 x389 x390 x391 x392 x393 : Value} {b o P pc t g m g2 o2 cap : Nat} {xs : List Nat} (W : World) (Q : Exit → Act → World → Prop) (hm : xs.length = m) (hm4 : m ≤ 4096) (htP : t < P) (hv : W.cell? ⟨b, o + t, none⟩ = some (.slice (some ⟨g2, o2, none⟩) m cap)) (hx : ∀ j, j < m → W.cell? ⟨g2, o2 + j, none⟩ = some (.int .u64 (xs.getD j 0))) (hg : ∀ j, j < m → (W.cell? ⟨g, j, none⟩).isSome = true ∧ W.frozen? ⟨g, j, none⟩ = false) (hd1 : b ≠ g) (hd2 : g2 ≠ g)
    (hQ : ∀ (u20 u104 u105 u106 u107 u108 u109 u110 u111 u112 u113 u114 u115 u116 u117 u118 u119 u120 u121 u122 u123 : Value) (wc : World), ((∀ j, j < m → wc.cell? ⟨g, j, none⟩ = some (.int .u64 (mulc (xs.getD j 0) : Nat))) ∧ Ot (fun k => k = g) W wc) → Q .normal ⟨#[x0, x1, .slice (some ⟨b, o, none⟩) P pc, x3, x4, x5, x6, x7, x8, x9, x10, x11, x12, x13, x14, x15, x16, x17, .int .i64 (t : Nat), .slice (some ⟨g, 0, none⟩) m m, u20, x21, x22, x23, x24, x25, x26, x27, x28, x29, x30, x31, x32, x33, x34, x35, x36, x37, x38, x39, x40, x41, x42, x43, x44, x45, x46, x47, x48, x49, x50, x51, x52, x53, x54, x55, x56, x57, x58, x59, x60, x61, x62, x63, x64, x65, x66, x67, x68, x69, x70, x71, x72, x73, x74, x75, x76, x77, x78, x79, x80, x81, x82, x83, x84, x85, x86, x87, x88, x89, x90, x91, x92, x93, x94, x95, x96, x97, x98, x99, x100, x101, x102, x103, u104, u105, u106, u107, u108, u109, u110, u111, u112, u113, u114, u115, u116, u117, u118, u119, u120, u121, u122, u123, x124, x125, x126, x127, x128, x129, x130, x131, x132, x133, x134, x135, x136, x137, x138, x139, x140, x141, x142, x143, x144, x145, x146, x147, x148, x149, x150, x151, x152, x153, x154, x155, x156, x157, x158, x159, x160, x161, x162, x163, x164, x165, x166, x167, x168, x169, x170, x171, x172, x173, x174, x175, x176, x177, x178, x179, x180, x181, x182, x183, x184, x185, x186, x187, x188, x189, x190, x191, x192, x193, x194, x195, x196, x197, x198, x199, x200, x201, x202, x203, x204, x205, x206, x207, x208, x209, x210, x211, x212, x213, x214, x215, x216, x217, x218, x219, x220, x221, x222, x223, x224, x225, x226, x227, x228, x229, x230, x231, x232, x233, x234, x235, x236, x237, x238, x239, x240, x241, x242, x243, x244, x245, x246, x247, x248, x249, x250, x251, x252, x253, x254, x255, x256, x257, x258, x259, x260, x261, x262, x263, x264, x265, x266, x267, x268, x269, x270, x271, x272, x273, x274, x275, x276, x277, x278, x279, x280, x281, x282, x283, x284, x285, x286, x287, x288, x289, x290, x291, x292, x293, x294, x295, x296, x297, x298, x299, x300, x301, x302, x303, x304, x305, x306, x307, x308, x309, x310, x311, x312, x313, x314, x315, x316, x317, x318, x319, x320, x321, x322, x323, x324, x325, x326, x327, x328, x329, x330, x331, x332, x333, x334, x335, x336, x337, x338, x339, x340, x341, x342, x343, x344, x345, x346, x347, x348, x349, x350, x351, x352, x353, x354, x355, x356, x357, x358, x359, x360, x361, x362, x363, x364, x365, x366, x367, x368, x369, x370, x371, x372, x373, x374, x375, x376, x377, x378, x379, x380, x381, x382, x383, x384, x385, x386, x387, x388, x389, x390, x391, x392, x393], []⟩ wc) :
    Code.wp Ybaf.prog ((Ybaf.f3.body.bind (blk 4)).getD .skip) Q ⟨#[x0, x1, .slice (some ⟨b, o, none⟩) P pc, x3, x4, x5, x6, x7, x8, x9, x10, x11, x12, x13, x14, x15, x16, x17, .int .i64 (t : Nat), .slice (some ⟨g, 0, none⟩) m m, .int .i64 0, x21, x22, x23, x24, x25, x26, x27, x28, x29, x30, x31, x32, x33, x34, x35, x36, x37, x38, x39, x40, x41, x42, x43, x44, x45, x46, x47, x48, x49, x50, x51, x52, x53, x54, x55, x56, x57, x58, x59, x60, x61, x62, x63, x64, x65, x66, x67, x68, x69, x70, x71, x72, x73, x74, x75, x76, x77, x78, x79, x80, x81, x82, x83, x84, x85, x86, x87, x88, x89, x90, x91, x92, x93, x94, x95, x96, x97, x98, x99, x100, x101, x102, x103, x104, x105, x106, x107, x108, x109, x110, x111, x112, x113, x114, x115, x116, x117, x118, x119, x120, x121, x122, x123, x124, x125, x126, x127, x128, x129, x130, x131, x132, x133, x134, x135, x136, x137, x138, x139, x140, x141, x142, x143, x144, x145, x146, x147, x148, x149, x150, x151, x152, x153, x154, x155, x156, x157, x158, x159, x160, x161, x162, x163, x164, x165, x166, x167, x168, x169, x170, x171, x172, x173, x174, x175, x176, x177, x178, x179, x180, x181, x182, x183, x184, x185, x186, x187, x188, x189, x190, x191, x192, x193, x194, x195, x196, x197, x198, x199, x200, x201, x202, x203, x204, x205, x206, x207, x208, x209, x210, x211, x212, x213, x214, x215, x216, x217, x218, x219, x220, x221, x222, x223, x224, x225, x226, x227, x228, x229, x230, x231, x232, x233, x234, x235, x236, x237, x238, x239, x240, x241, x242, x243, x244, x245, x246, x247, x248, x249, x250, x251, x252, x253, x254, x255, x256, x257, x258, x259, x260, x261, x262, x263, x264, x265, x266, x267, x268, x269, x270, x271, x272, x273, x274, x275, x276, x277, x278, x279, x280, x281, x282, x283, x284, x285, x286, x287, x288, x289, x290, x291, x292, x293, x294, x295, x296, x297, x298, x299, x300, x301, x302, x303, x304, x305, x306, x307, x308, x309, x310, x311, x312, x313, x314, x315, x316, x317, x318, x319, x320, x321, x322, x323, x324, x325, x326, x327, x328, x329, x330, x331, x332, x333, x334, x335, x336, x337, x338, x339, x340, x341, x342, x343, x344, x345, x346, x347, x348, x349, x350, x351, x352, x353, x354, x355, x356, x357, x358, x359, x360, x361, x362, x363, x364, x365, x366, x367, x368, x369, x370, x371, x372, x373, x374, x375, x376, x377, x378, x379, x380, x381, x382, x383, x384, x385, x386, x387, x388, x389, x390, x391, x392, x393], []⟩ W := by
  conv => arg 2; whnf
  have HQ := hide hQ
  have HX := hide hx
  have HG := hide hg
  have HV := hide hv
  clear hQ hx hg hv
  have htPi : (t : Int) < P := by omega
  go_wp2_with fail
  go_loopg [20] m (fun kx v20 wr => ∃ j : Nat, v20 = .int .i64 j ∧ j ≤ m ∧ m - j ≤ kx ∧ Ot (fun k => k = g) W wr ∧ (∀ i, i < j → wr.cell? ⟨g, i, none⟩ = some (.int .u64 (mulc (xs.getD i 0) : Nat))) ∧ ∀ i, i < m → (wr.cell? ⟨g, i, none⟩).isSome = true ∧ wr.frozen? ⟨g, i, none⟩ = false)
  case atStart => exact ⟨0, rfl, Nat.zero_le _, Nat.le_refl _, Ot.refl _ _, fun i hi => by omega, HG.out⟩
  case round =>
    obtain ⟨j, rfl, hjm, hjk, ho, hc, hs⟩ := hrel
    have hv := ho.cellv HV.out hd1
    by_cases hlt : j < m
    · have hlti : (j : Int) < m := by omega
      have hxj := ho.cellv (HX.out j hlt) hd2
      have hmul := mulc_int (xs.getD j 0)
      obtain ⟨z, hz⟩ := Option.isSome_iff_exists.1 (hs j hlt).1
      have hzf := (hs j hlt).2
      have hl2 := mulc_lt (xs.getD j 0)
      have HC := hide (And.intro ho (And.intro hc hs))
      have HY : Hid (∀ y, y = mulc (xs.getD j 0) → mulc (xs.getD j 0) = y) := hide (fun y h => h.symm)
      obtain ⟨y, hy⟩ : ∃ y, y = mulc (xs.getD j 0) := ⟨_, rfl⟩
      rw [← hy] at hmul hl2
      have HYY := hide hy
      generalize xs.getD j 0 = x at hxj hmul
      clear ho hc hs hy HY
      go_wp2_with fail
      go_roundg (m - (j + 1))
      case measure => omega
      case rel =>
        obtain ⟨ho, hc, hs⟩ := HC.out
        refine ⟨j + 1, by go_num, by omega, Nat.le_refl _, ho.setCell (fun _ => rfl) _, fun i hi => ?_, fun i hi => ?_⟩
        · rcases Nat.lt_or_ge i j with h | h
          · rw [World.cell?_setCell_other _ _ _ _ (fun e => by cases e; omega)]
            exact hc i h
          · have : i = j := by omega
            subst this
            rw [World.cell?_setCell_same _ _ _ hz, HYY.out]
        · rw [World.frozen?_setCell]
          refine ⟨?_, (hs i hi).2⟩
          by_cases h : i = j
          · subst h; rw [World.cell?_setCell_same _ _ _ hz]; rfl
          · rw [World.cell?_setCell_other _ _ _ _ (fun e => h (by cases e; rfl))]; exact (hs i hi).1
    · have hlti : ¬ (j : Int) < m := by omega
      go_wp2_with fail
      refine HQ.out _ _ _ _ _ _ _ _ _ _ _ _ _ _ _ _ _ _ _ _ _ _ ?_
      exact ⟨fun i hi => hc i (by omega), ho⟩

end Go.Proofs.YbulkdjggFmt
