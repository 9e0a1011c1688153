/-
  THE LAW (func 3): ONE LOOP: block 4 of her body.
-/
import Derived.Test.YbulkdjcmW
namespace Go.Proofs.Ybulkdjcm
open Go.RowKit Go.ChangeMaps Go.Sort
attribute [local go_sem] run_make

set_option maxHeartbeats 4000000 in
set_option maxRecDepth 1000000 in
theorem st3 {x0 x1 x3 x4 x5 x6 x7 x8 x9 x10 x12 x13 x14 x15 x16 x19 x20 x21 x22 x23 x24 x25 x26 x27 x28 x29 x30 x31 x32 x33 x34 x35 x36 x37 x38 x39 x40 x41 x42 x43 x44 x45 x46 x47 x48 x49 x50 x51 x52 x53 x54 x55 x56 x57 x58 x59 x60 x61 x62 x63 x64 x65 x66 x67 x68 x69 x70 x71 x72 x73 x74 x75 x76 x77 x78 x79 x80 x81 x82 x83 x84 x85 x86 x87 x88 x89 x90 x91 x92 x93 x94 x95 x96 x97 x98 x99 x100 x101 x102 x103 x104 x105 x106 x107 x108 x109 x110 x111 x112 x113 x114 x115 x116 x117 x118 x119 x120 x121 x122 x123 x124 x125 x126 x127 x128 x129 x130 x131 x132 x133 x134 x135 x136 x137 x138 x139 x140 x141 x142 x143 x144 x145 x146 x147 x148 x149 x150 x151 x152 x153 x154 x155 x156 x157 x158 x159 x160 x161 x162 x163 x164 x165 x166 x167 x168 x169 x170 x171 x172 x173 x174 x175 x176 x177 x178 x179 x180 x181 x182 x183 x184 x185 x186 x187 x188 x189 x190 x191 x192 x193 x194 x195 x196 x197 x198 x199 x200 x201 x202 x203 x204 x205 x206 x207 x208 x209 x210 x211 x212 x213 x214 x215 x216 x217 x218 x219 x220 x221 x222 x223 x224 x225 x226 x227 x228 x229 x230 x231 x232 x233 x234 x235 x236 x237 x238 x239 x240 x241 x242 x243 x244 x245 x246 x247 x248 x249 x250 x251 x252 x253 x254 x255 x256 x257 x258 x259 x260 x261 x262 x263 x264 x265 x266 x267 x268 x269 x270 x271 x272 x273 x274 x275 x276 x277 x278 x279 x280 x281 x282 x283 x284 x285 x286 x287 x288 x289 x290 x291 x292 x293 x294 x295 x296 x297 x298 x299 x300 x301 x302 x303 x304 x305 x306 x307 x308 x309 x310 x311 x312 x313 x314 x315 x316 x317 x318 x319 x320 x321 x322 x323 x324 x325 x326 x327 x328 x329 x330 x331 : Value} {Q : Exit → Act → World → Prop} (n : Int) (nmask : Nat) (E : List Ent) (w wB : World) (O : List (Nat × Nat × Nat)) (ck : Nat) (H1 : Hid (Pb w wB n O ck E ∧ Pres wB (w.heap.size + 1) O))
    (hQ : ∀ (u17 u18 u90 u91 u92 u93 u94 u95 u96 u97 u98 u99 u100 u101 u102 u103 u104 u105 u106 u107 u108 u109 : Value) (wc : World), (Mo wc wB.heap.size u17 ((List.range 8).filter (ls nmask O)) ∧ Pb w wc n O ck E ∧ Pres wc (w.heap.size + 1) O) → Q .normal ⟨#[x0, x1, .int .u8 nmask, x3, x4, x5, x6, x7, x8, x9, x10, .pointer (some ⟨w.heap.size + 1, 0, none⟩), x12, x13, x14, x15, x16, u17, u18, x19, x20, x21, x22, x23, x24, x25, x26, x27, x28, x29, x30, x31, x32, x33, x34, x35, x36, x37, x38, x39, x40, x41, x42, x43, x44, x45, x46, x47, x48, x49, x50, x51, x52, x53, x54, x55, x56, x57, x58, x59, x60, x61, x62, x63, x64, x65, x66, x67, x68, x69, x70, x71, x72, x73, x74, x75, x76, x77, x78, x79, x80, x81, x82, x83, x84, x85, x86, x87, x88, x89, u90, u91, u92, u93, u94, u95, u96, u97, u98, u99, u100, u101, u102, u103, u104, u105, u106, u107, u108, u109, x110, x111, x112, x113, x114, x115, x116, x117, x118, x119, x120, x121, x122, x123, x124, x125, x126, x127, x128, x129, x130, x131, x132, x133, x134, x135, x136, x137, x138, x139, x140, x141, x142, x143, x144, x145, x146, x147, x148, x149, x150, x151, x152, x153, x154, x155, x156, x157, x158, x159, x160, x161, x162, x163, x164, x165, x166, x167, x168, x169, x170, x171, x172, x173, x174, x175, x176, x177, x178, x179, x180, x181, x182, x183, x184, x185, x186, x187, x188, x189, x190, x191, x192, x193, x194, x195, x196, x197, x198, x199, x200, x201, x202, x203, x204, x205, x206, x207, x208, x209, x210, x211, x212, x213, x214, x215, x216, x217, x218, x219, x220, x221, x222, x223, x224, x225, x226, x227, x228, x229, x230, x231, x232, x233, x234, x235, x236, x237, x238, x239, x240, x241, x242, x243, x244, x245, x246, x247, x248, x249, x250, x251, x252, x253, x254, x255, x256, x257, x258, x259, x260, x261, x262, x263, x264, x265, x266, x267, x268, x269, x270, x271, x272, x273, x274, x275, x276, x277, x278, x279, x280, x281, x282, x283, x284, x285, x286, x287, x288, x289, x290, x291, x292, x293, x294, x295, x296, x297, x298, x299, x300, x301, x302, x303, x304, x305, x306, x307, x308, x309, x310, x311, x312, x313, x314, x315, x316, x317, x318, x319, x320, x321, x322, x323, x324, x325, x326, x327, x328, x329, x330, x331], []⟩ wc) :
    Code.wp Yba.prog ((Yba.f3.body.bind (blk 4)).getD .skip) Q ⟨#[x0, x1, .int .u8 nmask, x3, x4, x5, x6, x7, x8, x9, x10, .pointer (some ⟨w.heap.size + 1, 0, none⟩), x12, x13, x14, x15, x16, .slice none 0 0, .int .i64 0, x19, x20, x21, x22, x23, x24, x25, x26, x27, x28, x29, x30, x31, x32, x33, x34, x35, x36, x37, x38, x39, x40, x41, x42, x43, x44, x45, x46, x47, x48, x49, x50, x51, x52, x53, x54, x55, x56, x57, x58, x59, x60, x61, x62, x63, x64, x65, x66, x67, x68, x69, x70, x71, x72, x73, x74, x75, x76, x77, x78, x79, x80, x81, x82, x83, x84, x85, x86, x87, x88, x89, x90, x91, x92, x93, x94, x95, x96, x97, x98, x99, x100, x101, x102, x103, x104, x105, x106, x107, x108, x109, x110, x111, x112, x113, x114, x115, x116, x117, x118, x119, x120, x121, x122, x123, x124, x125, x126, x127, x128, x129, x130, x131, x132, x133, x134, x135, x136, x137, x138, x139, x140, x141, x142, x143, x144, x145, x146, x147, x148, x149, x150, x151, x152, x153, x154, x155, x156, x157, x158, x159, x160, x161, x162, x163, x164, x165, x166, x167, x168, x169, x170, x171, x172, x173, x174, x175, x176, x177, x178, x179, x180, x181, x182, x183, x184, x185, x186, x187, x188, x189, x190, x191, x192, x193, x194, x195, x196, x197, x198, x199, x200, x201, x202, x203, x204, x205, x206, x207, x208, x209, x210, x211, x212, x213, x214, x215, x216, x217, x218, x219, x220, x221, x222, x223, x224, x225, x226, x227, x228, x229, x230, x231, x232, x233, x234, x235, x236, x237, x238, x239, x240, x241, x242, x243, x244, x245, x246, x247, x248, x249, x250, x251, x252, x253, x254, x255, x256, x257, x258, x259, x260, x261, x262, x263, x264, x265, x266, x267, x268, x269, x270, x271, x272, x273, x274, x275, x276, x277, x278, x279, x280, x281, x282, x283, x284, x285, x286, x287, x288, x289, x290, x291, x292, x293, x294, x295, x296, x297, x298, x299, x300, x301, x302, x303, x304, x305, x306, x307, x308, x309, x310, x311, x312, x313, x314, x315, x316, x317, x318, x319, x320, x321, x322, x323, x324, x325, x326, x327, x328, x329, x330, x331], []⟩ wB := by
  conv => arg 2; whnf
  have HQ := hide hQ
  clear hQ
  obtain ⟨i0, hi0, hz0, hz1, hz2⟩ := info_parts Yba.info9p
  go_wp2_with fail
  go_loopw [17, 18] (fun v x wr => ∃ i : Nat, i ≤ 8 ∧ x = .int .i64 i ∧ Mo wr wB.heap.size v ((List.range i).filter (ls nmask O)) ∧ Pb w wr n O ck E ∧ Pres wr (w.heap.size + 1) O ∧ wB.heap.size ≤ wr.heap.size) (fun _ x _ => 8 - (intOf x).toNat)
  case atStart => exact ⟨0, by omega, rfl, Mo.nil _ _, H1.out.1, H1.out.2, Nat.le_refl _⟩
  case round =>
    obtain ⟨i, hi8, rfl, hown, hp, hr, hsz⟩ := hrel
    by_cases hi : i < 8
    · have hii : (i : Int) < 8 := by omega
      have hc := (hr i hi).1
      have hO : ∀ e ∈ O, e.2.1 < wB.heap.size := fun e he => lt_of_block (H1.out.1.map e he)
      have hM : ((List.range i).filter (ls nmask O)).length ≤ i := Nat.le_trans (List.length_filter_le ..) (by simp)
      have hro := H1.out.1.room
      have HR := hide (And.intro hp (And.intro hr hO))
      have HF := hide (filter_range_succ (ls nmask O) i)
      have HW := hide hown
      clear hp hr hO hown
      have hend : ∀ (v' : Value) (w2 : World), w2.ownsRow wB.heap.size 9 1 v' (((List.range i).filter (ls nmask O)).length + 1) (((List.range i).filter (ls nmask O)).map sk ++ [.string (nm i)]) → (wr.alloc (.cells #[.string (nm i)] 9)).grownBy w2 (Value.ownBlock u17) → ls nmask O i = true →
          (∃ i_1 : Nat, i_1 ≤ 8 ∧ Value.int IntKind.i64 ((i : Int) + 1) = Value.int IntKind.i64 i_1 ∧ Mo w2 wB.heap.size v' ((List.range i_1).filter (ls nmask O)) ∧ Pb w w2 n O ck E ∧ Pres w2 (w.heap.size + 1) O ∧ wB.heap.size ≤ w2.heap.size) := by
        intro v' w2 ho hg hl
        have o2 : Ot (fun k => Value.ownBlock u17 = some k) wr w2 := ((Ot.refl _ _).alloc _).trans (Ot.of_grown hg)
        refine ⟨i + 1, by omega, by go_num, ?_, HR.out.1.far o2 (fun k hk => ?_), HR.out.2.1.ot o2 (fun hk => ?_), Nat.le_trans hsz o2.size⟩
        · unfold Mo
          rw [HF.out, hl]
          simpa [sk] using ho
        · have h1 := (HW.out.lt k hk).1
          exact ⟨by omega, fun e he => by have := HR.out.2.2 e he; omega⟩
        · have h1 := (HW.out.lt _ hk).1
          omega
      have HEND := hide hend
      clear hend
      have hstay : ls nmask O i = false → (∃ i_1 : Nat, i_1 ≤ 8 ∧ Value.int IntKind.i64 ((i : Int) + 1) = Value.int IntKind.i64 i_1 ∧ Mo wr wB.heap.size u17 ((List.range i_1).filter (ls nmask O)) ∧ Pb w wr n O ck E ∧ Pres wr (w.heap.size + 1) O ∧ wB.heap.size ≤ wr.heap.size) := by
        intro hl
        refine ⟨i + 1, by omega, by go_num, ?_, HR.out.1, HR.out.2.1, hsz⟩
        rw [HF.out, hl]
        simpa using HW.out
      have HST := hide hstay
      clear hstay HF
      generalize hlen : ((List.range i).filter (ls nmask O)).length = ln at hM HEND
      by_cases hb : bits BinOp.and IntKind.u8 ((nmask : Int) / 2 ^ i) 1 = 1
      · have hl : ls nmask O i = true := by simp [ls, hb]
        go_wp2_with (first
          | (go_at_call 4; refine (name_at i hi _).mono ?_; rintro e w' ⟨rfl, rfl⟩)
          | (at_builtin; refine wpList_append_own _ rfl _ _ 45 rfl wB.heap.size 9 i0 (.string ⟨#[]⟩) 1 16 Yba.underlying45 hi0 hz0 hz1 hz2 rfl (by decide) _ ln _ rfl (World.ownsRow.alloc (by have := HW.out; unfold Mo at this; rw [hlen] at this; exact this) _) ⟨wr.heap.size, 0, none⟩ 1 1 [.string (nm i)] rfl rfl (cell_one_new _ _ _) (fun u hu => by simp at hu; subst hu; rfl) (by unfold maxLen; omega) (by omega) (by simp; omega) ?_; intro v' w2 hown2 hg2 hnil2)
          | fail)
        exact ⟨HEND.out v' w2 hown2 hg2 hl, by simp [intOf]; omega⟩
      · by_cases hk : i ∈ keys O
        · have hl : ls nmask O i = true := by simp [ls, hk]
          rw [decide_eq_true hk] at hc
          go_wp2_with (first
            | (go_at_call 4; refine (name_at i hi _).mono ?_; rintro e w' ⟨rfl, rfl⟩)
            | (at_builtin; refine wpList_append_own _ rfl _ _ 45 rfl wB.heap.size 9 i0 (.string ⟨#[]⟩) 1 16 Yba.underlying45 hi0 hz0 hz1 hz2 rfl (by decide) _ ln _ rfl (World.ownsRow.alloc (by have := HW.out; unfold Mo at this; rw [hlen] at this; exact this) _) ⟨wr.heap.size, 0, none⟩ 1 1 [.string (nm i)] rfl rfl (cell_one_new _ _ _) (fun u hu => by simp at hu; subst hu; rfl) (by unfold maxLen; omega) (by omega) (by simp; omega) ?_; intro v' w2 hown2 hg2 hnil2)
            | fail)
          exact ⟨HEND.out v' w2 hown2 hg2 hl, by simp [intOf]; omega⟩
        · have hl : ls nmask O i = false := by simp [ls, hk, hb]
          rw [decide_eq_false hk] at hc
          go_wp2_with fail
          exact ⟨HST.out hl, by simp [intOf]; omega⟩
    · have hii : ¬ (i : Int) < 8 := by omega
      have he : i = 8 := by omega
      subst he
      have HR := hide (And.intro hown (And.intro hp hr))
      clear hown hp hr
      go_wp2_with fail
      refine HQ.out _ _ _ _ _ _ _ _ _ _ _ _ _ _ _ _ _ _ _ _ _ _ _ ?_
      exact HR.out

end Go.Proofs.Ybulkdjcm
