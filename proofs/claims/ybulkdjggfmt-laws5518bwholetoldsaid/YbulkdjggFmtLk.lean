/-
  THE LAW (func 3): the fourth loop (block 6): the copies of the positions given.
-/
import Derived.Test.YbulkdjggFmtLa
namespace Go.Proofs.YbulkdjggFmt
open Go.RowKit Go.Sort Go.ChangeMaps

/-- What stands while a row is copied. -/
structure Zc (g m : Nat) (W W' : World) : Prop where
  ot : Ot (fun k => k = g) W W'
  c : ∀ j, j < m → (W'.cell? ⟨g, j, none⟩).isSome = true ∧ W'.frozen? ⟨g, j, none⟩ = false
theorem Zc.drew {g m : Nat} {W W' : World} (h : Zc g m W W') : Zc g m W W'.drew := ⟨h.ot.drew, h.c⟩
theorem Zc.set {g m : Nat} {W W' : World} (h : Zc g m W W') (cs : List Value) (hl : cs.length = m) : Zc g m W (W'.setCells g 0 cs) := by
  refine ⟨h.ot.trans (ot_setCells g cs 0 W'), fun j hj => ⟨?_, by rw [World.frozen?_setCells]; exact (h.c j hj).2⟩⟩
  have := World.cell?_setCells_in g cs 0 W' (fun j hj => by rw [Nat.zero_add]; exact (h.c j (by omega)).1) j (by omega)
  rw [Nat.zero_add] at this
  rw [this]; rfl

set_option maxHeartbeats 4000000 in
set_option maxRecDepth 1000000 in
theorem st4 {x0 x1 x2 x3 x4 x5 x6 x7 x8 x9 x10 x11 x12 x13 x14 x15 x16 x17 x18 x19 x20 x22 x23 x24 x25 x26 x29 x30 x31 x32 x33 x34 x35 x36 x37 x38 x39 x40 x41 x42 x43 x44 x45 x46 x47 x48 x49 x50 x51 x52 x53 x54 x55 x56 x57 x58 x59 x60 x61 x62 x63 x64 x65 x66 x67 x68 x69 x70 x71 x72 x73 x74 x75 x76 x77 x78 x79 x80 x81 x82 x83 x84 x85 x86 x87 x88 x89 x90 x91 x92 x93 x94 x95 x96 x97 x98 x99 x100 x101 x102 x103 x104 x105 x106 x107 x108 x109 x110 x111 x112 x113 x114 x115 x116 x117 x118 x119 x120 x121 x122 x123 x124 x125 x126 x127 x128 x129 x130 x131 x132 x133 x134 x135 x136 x137 x138 x139 x140 x141 x142 x143 x144 x145 x146 x147 x148 x149 x150 x151 x152 x153 x154 x155 x156 x157 x158 x159 x160 x161 x162 x163 x164 x165 x166 x167 x168 x169 x170 x171 x172 x173 x174 x175 x176 x177 x178 x179 x180 x181 x182 x183 x184 x185 x186 x187 x188 x189 x190 x191 x192 x193 x194 x195 x196 x197 x198 x199 x200 x201 x202 x203 x204 x205 x206 x207 x208 x209 x210 x211 x212 x213 x214 x215 x216 x217 x218 x219 x220 x221 x222 x223 x224 x225 x226 x227 x228 x229 x230 x231 x232 x233 x234 x235 x236 x237 x238 x239 x240 x241 x242 x243 x244 x245 x246 x247 x248 x249 x250 x251 x252 x253 x254 x255 x256 x257 x258 x259 x260 x261 x262 x263 x264 x265 x266 x267 x268 x269 x270 x271 x272 x273 x274 x275 x276 x277 x278 x279 x280 x281 x282 x283 x284 x285 x286 x287 x288 x289 x290 x291 x292 x293 x294 x295 x296 x297 x298 x299 x300 x301 x302 x303 x304 x305 x306 x307 x308 x309 x310 x311 x312 x313 x314 x315 x316 x317 x318 x319 x320 x321 x322 x323 x324 x325 x326 x327 x328 x329 x330 x331 x332 x333 x334 x335 x336 x337 x338 x339 x340 x341 x342 x343 x344 x345 x346 x347 x348 x349 x350 x351 x352 x353 x354 x355 x356 x357 x358 x359 x360 x361 x362 x363 x364 x365 x366 x367 x368 x369 x370 x371 x372 x373 x374 x375 x376 x377 x378 x379 x380 x381 x382 x383 x384 x385 x386 x387 x388 x389 x390 x391 x392 x393 : Value} {R ob n ob2 : Nat} {ov : Nat → Value} {px : Nat → List Nat} (W : World) (Q : Exit → Act → World → Prop) (hn4 : n ≤ 4) (h0 : W.cell? ⟨R, 2, none⟩ = some (.slice (some ⟨ob, 0, none⟩) n n)) (h1 : ∀ j, j < n → W.cell? ⟨ob, j, none⟩ = some (ov j)) (r1 : ∀ j, j < n → Rd W (ov j) (px j)) (h2 : ∀ j, j < n → W.cell? ⟨ob2, j, none⟩ = some (.slice none 0 0) ∧ W.frozen? ⟨ob2, j, none⟩ = false) (hl : ∀ j, (px j).length ≤ 4096) (d1 : R ≠ ob2) (d2 : ob ≠ ob2) (d3 : ∀ j, j < n → ∀ g, (ov j).ownBlock = some g → g ≠ ob2)
    (hQ : ∀ (u28 u183 u184 u185 u186 u187 u188 u189 u190 u191 u192 u193 u194 u195 u196 u197 u198 u199 u200 u201 u202 u203 u204 u205 u206 u207 u208 u209 u210 u211 u212 u213 u214 u215 u216 u217 u218 u219 u220 u221 u222 u223 : Value) (wc : World), (∃ ow : Nat → Value, (∀ j, j < n → wc.cell? ⟨ob2, j, none⟩ = some (ow j)) ∧ (∀ j, j < n → Rd wc (ow j) (px j)) ∧ Ot (fun k => k = ob2) W wc) → Q .normal ⟨#[x0, x1, x2, x3, x4, x5, x6, x7, x8, x9, x10, x11, x12, x13, x14, x15, x16, x17, x18, x19, x20, .pointer (some ⟨R, 0, none⟩), x22, x23, x24, x25, x26, .slice (some ⟨ob2, 0, none⟩) n n, u28, x29, x30, x31, x32, x33, x34, x35, x36, x37, x38, x39, x40, x41, x42, x43, x44, x45, x46, x47, x48, x49, x50, x51, x52, x53, x54, x55, x56, x57, x58, x59, x60, x61, x62, x63, x64, x65, x66, x67, x68, x69, x70, x71, x72, x73, x74, x75, x76, x77, x78, x79, x80, x81, x82, x83, x84, x85, x86, x87, x88, x89, x90, x91, x92, x93, x94, x95, x96, x97, x98, x99, x100, x101, x102, x103, x104, x105, x106, x107, x108, x109, x110, x111, x112, x113, x114, x115, x116, x117, x118, x119, x120, x121, x122, x123, x124, x125, x126, x127, x128, x129, x130, x131, x132, x133, x134, x135, x136, x137, x138, x139, x140, x141, x142, x143, x144, x145, x146, x147, x148, x149, x150, x151, x152, x153, x154, x155, x156, x157, x158, x159, x160, x161, x162, x163, x164, x165, x166, x167, x168, x169, x170, x171, x172, x173, x174, x175, x176, x177, x178, x179, x180, x181, x182, u183, u184, u185, u186, u187, u188, u189, u190, u191, u192, u193, u194, u195, u196, u197, u198, u199, u200, u201, u202, u203, u204, u205, u206, u207, u208, u209, u210, u211, u212, u213, u214, u215, u216, u217, u218, u219, u220, u221, u222, u223, x224, x225, x226, x227, x228, x229, x230, x231, x232, x233, x234, x235, x236, x237, x238, x239, x240, x241, x242, x243, x244, x245, x246, x247, x248, x249, x250, x251, x252, x253, x254, x255, x256, x257, x258, x259, x260, x261, x262, x263, x264, x265, x266, x267, x268, x269, x270, x271, x272, x273, x274, x275, x276, x277, x278, x279, x280, x281, x282, x283, x284, x285, x286, x287, x288, x289, x290, x291, x292, x293, x294, x295, x296, x297, x298, x299, x300, x301, x302, x303, x304, x305, x306, x307, x308, x309, x310, x311, x312, x313, x314, x315, x316, x317, x318, x319, x320, x321, x322, x323, x324, x325, x326, x327, x328, x329, x330, x331, x332, x333, x334, x335, x336, x337, x338, x339, x340, x341, x342, x343, x344, x345, x346, x347, x348, x349, x350, x351, x352, x353, x354, x355, x356, x357, x358, x359, x360, x361, x362, x363, x364, x365, x366, x367, x368, x369, x370, x371, x372, x373, x374, x375, x376, x377, x378, x379, x380, x381, x382, x383, x384, x385, x386, x387, x388, x389, x390, x391, x392, x393], []⟩ wc) :
    Code.wp Ybaf.prog ((Ybaf.f3.body.bind (blk 6)).getD .skip) Q ⟨#[x0, x1, x2, x3, x4, x5, x6, x7, x8, x9, x10, x11, x12, x13, x14, x15, x16, x17, x18, x19, x20, .pointer (some ⟨R, 0, none⟩), x22, x23, x24, x25, x26, .slice (some ⟨ob2, 0, none⟩) n n, .int .i64 0, x29, x30, x31, x32, x33, x34, x35, x36, x37, x38, x39, x40, x41, x42, x43, x44, x45, x46, x47, x48, x49, x50, x51, x52, x53, x54, x55, x56, x57, x58, x59, x60, x61, x62, x63, x64, x65, x66, x67, x68, x69, x70, x71, x72, x73, x74, x75, x76, x77, x78, x79, x80, x81, x82, x83, x84, x85, x86, x87, x88, x89, x90, x91, x92, x93, x94, x95, x96, x97, x98, x99, x100, x101, x102, x103, x104, x105, x106, x107, x108, x109, x110, x111, x112, x113, x114, x115, x116, x117, x118, x119, x120, x121, x122, x123, x124, x125, x126, x127, x128, x129, x130, x131, x132, x133, x134, x135, x136, x137, x138, x139, x140, x141, x142, x143, x144, x145, x146, x147, x148, x149, x150, x151, x152, x153, x154, x155, x156, x157, x158, x159, x160, x161, x162, x163, x164, x165, x166, x167, x168, x169, x170, x171, x172, x173, x174, x175, x176, x177, x178, x179, x180, x181, x182, x183, x184, x185, x186, x187, x188, x189, x190, x191, x192, x193, x194, x195, x196, x197, x198, x199, x200, x201, x202, x203, x204, x205, x206, x207, x208, x209, x210, x211, x212, x213, x214, x215, x216, x217, x218, x219, x220, x221, x222, x223, x224, x225, x226, x227, x228, x229, x230, x231, x232, x233, x234, x235, x236, x237, x238, x239, x240, x241, x242, x243, x244, x245, x246, x247, x248, x249, x250, x251, x252, x253, x254, x255, x256, x257, x258, x259, x260, x261, x262, x263, x264, x265, x266, x267, x268, x269, x270, x271, x272, x273, x274, x275, x276, x277, x278, x279, x280, x281, x282, x283, x284, x285, x286, x287, x288, x289, x290, x291, x292, x293, x294, x295, x296, x297, x298, x299, x300, x301, x302, x303, x304, x305, x306, x307, x308, x309, x310, x311, x312, x313, x314, x315, x316, x317, x318, x319, x320, x321, x322, x323, x324, x325, x326, x327, x328, x329, x330, x331, x332, x333, x334, x335, x336, x337, x338, x339, x340, x341, x342, x343, x344, x345, x346, x347, x348, x349, x350, x351, x352, x353, x354, x355, x356, x357, x358, x359, x360, x361, x362, x363, x364, x365, x366, x367, x368, x369, x370, x371, x372, x373, x374, x375, x376, x377, x378, x379, x380, x381, x382, x383, x384, x385, x386, x387, x388, x389, x390, x391, x392, x393], []⟩ W := by
  conv => arg 2; whnf
  have HQ := hide hQ
  have HF := hide (And.intro h0 (And.intro h1 (And.intro r1 (And.intro h2 (And.intro hl d3)))))
  clear hQ h0 h1 r1 h2 hl d3
  go_wp2_with fail
  go_loopg [28] n (fun kx v wr => ∃ (t : Nat) (ow : Nat → Value), v = .int .i64 t ∧ t ≤ n ∧ n - t ≤ kx ∧ Ot (fun k => k = ob2) W wr ∧ (∀ j, j < n → wr.cell? ⟨ob2, j, none⟩ = some (ow j) ∧ wr.frozen? ⟨ob2, j, none⟩ = false) ∧ (∀ j, t ≤ j → ow j = .slice none 0 0) ∧
    ∀ j, j < t → Rd wr (ow j) (px j) ∧ ∀ g, (ow j).ownBlock = some g → g ≠ ob2)
  case atStart => exact ⟨0, fun _ => .slice none 0 0, rfl, Nat.zero_le _, Nat.le_refl _, Ot.refl _ _, HF.out.2.2.2.1, fun _ _ => rfl, fun j hj => by omega⟩
  case round =>
    obtain ⟨t, ow, rfl, htn, htk, ho, hc, hnil, hrd⟩ := hrel
    obtain ⟨h0, h1, r1, _, hl, d3⟩ := HF.out
    have c2 := ho.cellv h0 d1
    by_cases hlt : t < n
    · have hlti : (t : Int) < n := by omega
      have co := ho.cellv (h1 t hlt) d2
      have HI := hide (And.intro ho (And.intro hc (And.intro hnil hrd)))
      rcases r1 t hlt with ⟨hv, hx⟩ | ⟨g, cap, hv, hpos, hcx⟩
      · rw [hv] at co
        have q1 := neN wr
        clear ho hc hnil hrd h0 h1 r1 hl d3
        go_wp2_with fail
        go_roundg (n - (t + 1))
        case measure => omega
        case rel =>
          obtain ⟨ho, hc, hnil, hrd⟩ := HI.out
          refine ⟨t + 1, ow, by go_num, by omega, Nat.le_refl _, ho, hc, fun j hj => hnil j (by omega), fun j hj => ?_⟩
          rcases Nat.lt_or_ge j t with h | h
          · exact hrd j h
          · rw [show j = t by omega, hnil t (Nat.le_refl _), hx]
            exact ⟨.inl ⟨rfl, rfl⟩, fun g h => by simp [Value.ownBlock] at h⟩
      · rw [hv] at co
        obtain ⟨m, hm⟩ : ∃ m, m = (px t).length := ⟨_, rfl⟩
        rw [← hm] at co
        have q1 := neS wr g m cap
        have hm4 : m ≤ 4096 := by rw [hm]; exact hl t
        obtain ⟨Z, hZs, hZ, hmk⟩ := make25 m (by omega)
        have hmk1 := hmk wr
        have hct := (hc t hlt).1
        have hft := (hc t hlt).2
        have hdg : g ≠ ob2 := d3 t hlt g (by rw [hv]; rfl)
        have hgl : g < wr.heap.size := by
          have := World.block_lt_of_cell? _ _ (ho.cellv (hcx 0 hpos) hdg)
          exact this
        have hol : ob2 < wr.heap.size := World.block_lt_of_cell? _ _ hct
        have hRl : R < wr.heap.size := World.block_lt_of_cell? _ _ c2
        have hobl : ob < wr.heap.size := World.block_lt_of_cell? _ _ co
        have HX := hide (And.intro hm (And.intro hcx (And.intro hpos hZ)))
        clear ho hc hnil hrd h0 h1 r1 hl d3 hmk hm hcx hpos hZ
        go_upto_region 42 with (fail)
        go_cut [] from 183 to 223 (fun wc => wc.cell? ⟨ob2, t, none⟩ = some (.slice (some ⟨wr.heap.size, 0, none⟩) m m) ∧ Ot (fun k => k = ob2) wr wc ∧ (∀ j, j < n → j ≠ t → wc.cell? ⟨ob2, j, none⟩ = wr.cell? ⟨ob2, j, none⟩) ∧ (∀ j, wc.frozen? ⟨ob2, j, none⟩ = wr.frozen? ⟨ob2, j, none⟩) ∧
          (∀ j, j < m → (wc.cell? ⟨wr.heap.size, j, none⟩).isSome = true ∧ wc.frozen? ⟨wr.heap.size, j, none⟩ = false))
        case first =>
          go_wp2_with fail
          go_meet
          case rel =>
            have hs : Ot (fun k => k = ob2) wr (wr.setCell ⟨ob2, t, none⟩ (.slice (some ⟨wr.heap.size, 0, none⟩) m m)) := (Ot.refl (fun k => k = ob2) wr).setCell (p := ⟨ob2, t, none⟩) (fun _ => rfl) _
            have hsame : (wr.setCell ⟨ob2, t, none⟩ (.slice (some ⟨wr.heap.size, 0, none⟩) m m)).cell? ⟨ob2, t, none⟩ = some (.slice (some ⟨wr.heap.size, 0, none⟩) m m) := World.cell?_setCell_same _ _ _ hct
            have hoth : ∀ j, j ≠ t → (wr.setCell ⟨ob2, t, none⟩ (.slice (some ⟨wr.heap.size, 0, none⟩) m m)).cell? ⟨ob2, j, none⟩ = wr.cell? ⟨ob2, j, none⟩ := fun j hj => World.cell?_setCell_other _ _ _ _ (fun e => hj (by cases e; rfl))
            have hfz : ∀ j, (wr.setCell ⟨ob2, t, none⟩ (.slice (some ⟨wr.heap.size, 0, none⟩) m m)).frozen? ⟨ob2, j, none⟩ = wr.frozen? ⟨ob2, j, none⟩ := fun j => World.frozen?_setCell _ _ _ _
            have hsz : (wr.setCell ⟨ob2, t, none⟩ (.slice (some ⟨wr.heap.size, 0, none⟩) m m)).heap.size = wr.heap.size := by simp [World.setCell]
            generalize wr.setCell ⟨ob2, t, none⟩ (.slice (some ⟨wr.heap.size, 0, none⟩) m m) = W1 at *
            have ha := Ot.of_below (fun _ => False) (below_alloc W1 (.cells Z 28))
            refine ⟨ha.cellv hsame (fun h => h), hs.alloc _, fun j _ hj => ?_, fun j => ?_, fun j hj => ?_⟩
            · rw [ha.cell (p := ⟨ob2, j, none⟩) (by rw [hsz]; exact hol) (fun h => h)]; exact hoth j hj
            · rw [ha.frozen (p := ⟨ob2, j, none⟩) (by rw [hsz]; exact hol) (fun h => h)]; exact hfz j
            · exact ⟨by rw [World.cell?_alloc_at _ _ _ _ hsz.symm, HX.out.2.2.2 j hj]; rfl, World.frozen?_alloc_at _ _ _ _ hsz.symm⟩
        case rest =>
          obtain ⟨k1, k2, k3, k4, k5⟩ := hcut
          obtain ⟨g3, hg3⟩ : ∃ g3, g3 = wr.heap.size := ⟨_, rfl⟩
          rw [← hg3] at k1 k5 hgl hol hRl hobl
          have HG3 := hide hg3
          clear hg3
          have k0 : Zc g3 m wc wc := ⟨Ot.refl _ _, k5⟩
          have hlen : (u64s (px t)).length = m := by rw [HX.out.1]; simp
          have c2' := k2.cellv c2 d1
          have co' := k2.cellv co d2
          have HS : Hid (∀ W', Zc g3 m wc W' → W'.cell? ⟨ob2, t, none⟩ = some (.slice (some ⟨g3, 0, none⟩) m m) ∧ W'.cell? ⟨R, 2, none⟩ = some (.slice (some ⟨ob, 0, none⟩) n n) ∧ W'.cell? ⟨ob, t, none⟩ = some (.slice (some ⟨g, 0, none⟩) m cap) ∧
              (∀ ty, (Builtin.copy_ #[25, 25] ty #[.slice (some ⟨g3, 0, none⟩) m m, .slice (some ⟨g, 0, none⟩) m cap]).run Ybaf.prog W' = .ok (.int .i64 m) (W'.setCells g3 0 (u64s (px t)))) ∧ Zc g3 m wc W') := hide (fun W' hz => by
            refine ⟨hz.ot.cellv k1 (show ¬ ob2 = g3 by omega), hz.ot.cellv c2' (show ¬ R = g3 by omega), hz.ot.cellv co' (show ¬ ob = g3 by omega), fun ty => ?_, hz⟩
            refine run_copy_k W' 25 25 ty 28 1 m g3 m ⟨g, 0, none⟩ cap (u64s (px t)) Ybaf.underlying25 (by kernel_rfl) (by rw [hlen, Nat.mul_one]) (fun j u hu => ?_) (fun j hj => (hz.c j (by omega)).1) (fun j hj => (hz.c j (by omega)).2) (u64s_oneCell _)
            rw [List.getElem?_map] at hu
            have hjl : j < (px t).length := by
              rcases Nat.lt_or_ge j (px t).length with h | h
              · exact h
              · rw [List.getElem?_eq_none h] at hu; simp at hu
            rw [List.getElem?_eq_getElem hjl] at hu
            simp only [Option.map_some, Option.some.injEq] at hu
            subst hu
            have h1 := hz.ot.cellv (k2.cellv (HI.out.1.cellv (HX.out.2.1 j hjl) hdg) hdg) (show ¬ g = g3 by omega)
            rw [List.getD_eq_getElem?_getD, List.getElem?_eq_getElem hjl, Option.getD_some] at h1
            rcases Nat.eq_zero_or_pos j with h0 | h0
            · subst h0; simpa [Addr.add] using h1
            · have h0' : ¬ j = 0 := by omega
              simpa [Addr.add, h0'] using h1)
          have HK := hide (And.intro k1 (And.intro k2 (And.intro k3 (And.intro k4 k5))))
          clear k1 k2 k3 k4 k5 c2 co c2' co' hct hft hmk1 q1
          go_upto_region 43 with (fail)
          go_region_held3 (fun W' => W'.cell? ⟨ob2, t, none⟩ = some (.slice (some ⟨g3, 0, none⟩) m m) ∧ W'.cell? ⟨R, 2, none⟩ = some (.slice (some ⟨ob, 0, none⟩) n n) ∧ W'.cell? ⟨ob, t, none⟩ = some (.slice (some ⟨g, 0, none⟩) m cap) ∧
              (∀ ty, (Builtin.copy_ #[25, 25] ty #[.slice (some ⟨g3, 0, none⟩) m m, .slice (some ⟨g, 0, none⟩) m cap]).run Ybaf.prog W' = .ok (.int .i64 m) (W'.setCells g3 0 (u64s (px t)))) ∧ Zc g3 m wc W')
            ((refine unhide HS _ ?_
              go_split_ands
              first
                | assumption
                | (exact Zc.drew (by assumption))
                | (exact Zc.set (by assumption) _ hlen)))
            (fail)
          all_goals
            go_wp2_with fail
            go_roundg (n - (t + 1))
            case measure => omega
            case rel =>
              obtain ⟨ho, hc, hnil, hrd⟩ := HI.out
              obtain ⟨k1, k2, k3, k4, k5⟩ := HK.out
              have hstep : Ot (fun k => k = g3) wc (wc.drew.setCells g3 0 (u64s (px t))) := ((Ot.refl (fun k => k = g3) wc).drew).trans (ot_setCells g3 _ 0 _)
              have hin : ∀ j, j < m → (wc.drew.setCells g3 0 (u64s (px t))).cell? ⟨g3, j, none⟩ = some (.int .u64 ((px t).getD j 0)) := fun j hj => by
                have := World.cell?_setCells_in g3 (u64s (px t)) 0 wc.drew (fun j hj => by rw [Nat.zero_add]; exact (k5 j (by omega)).1) j (by omega)
                rw [Nat.zero_add] at this
                have hjl : j < (px t).length := by rw [← HX.out.1]; exact hj
                rw [this]
                simp [List.getD_eq_getElem?_getD, hjl]
              generalize wc.drew.setCells g3 0 (u64s (px t)) = W9 at *
              have hWg : W.heap.size ≤ g3 := by rw [HG3.out]; exact ho.size
              refine ⟨t + 1, fun j => if j = t then .slice (some ⟨g3, 0, none⟩) m m else ow j, by go_num, by omega, Nat.le_refl _, (ho.trans k2).step hstep (fun i hi hl => by omega), fun j hj => ?_, fun j hj => (if_neg (show ¬ j = t by omega)).trans (hnil j (by omega)), fun j hj => ?_⟩
              · refine ⟨?_, ?_⟩
                · by_cases hjt : j = t
                  · subst hjt
                    (try dsimp only)
                    rw [if_pos rfl]
                    exact hstep.cellv k1 (show ¬ ob2 = g3 by omega)
                  · (try dsimp only)
                    rw [if_neg hjt]
                    exact hstep.cellv ((k3 j hj hjt).trans (hc j hj).1) (show ¬ ob2 = g3 by omega)
                · rw [hstep.frozen (p := ⟨ob2, j, none⟩) (show ob2 < wc.heap.size from World.block_lt_of_cell? wc ⟨ob2, t, none⟩ k1) (show ¬ ob2 = g3 by omega), k4 j]
                  exact (hc j hj).2
              · by_cases hjt : j = t
                · subst hjt
                  (try dsimp only)
                  rw [if_pos rfl]
                  refine ⟨.inr ⟨g3, m, by rw [HX.out.1], HX.out.2.2.1, fun i hi => hin i (by rw [HX.out.1]; exact hi)⟩, fun g' hg' => ?_⟩
                  have : g' = g3 := by simpa [Value.ownBlock] using hg'.symm
                  omega
                · (try dsimp only)
                  rw [if_neg hjt]
                  obtain ⟨m1, m2⟩ := hrd j (by omega)
                  refine ⟨?_, m2⟩
                  rcases m1 with m1 | ⟨g', cap', m3, m4, m5⟩
                  · exact .inl m1
                  · have hg'l : g' < g3 := by rw [HG3.out]; exact World.block_lt_of_cell? _ _ (m5 0 m4)
                    have hg'o : ¬ g' = ob2 := m2 g' (by rw [m3]; rfl)
                    exact .inr ⟨g', cap', m3, m4, fun i hi => hstep.cellv (k2.cellv (m5 i hi) hg'o) (show ¬ g' = g3 by omega)⟩
    · have hlti : ¬ (t : Int) < n := by omega
      clear h0 h1 r1 hl d3
      go_wp2_with fail
      refine HQ.out _ _ _ _ _ _ _ _ _ _ _ _ _ _ _ _ _ _ _ _ _ _ _ _ _ _ _ _ _ _ _ _ _ _ _ _ _ _ _ _ _ _ _ ?_
      exact ⟨ow, fun j hj => (hc j hj).1, fun j hj => (hrd j (by omega)).1, ho⟩

end Go.Proofs.YbulkdjggFmt
