/-
  THE LAW (func 3): ONE LOOP: block 0 of her body.
-/
import Derived.Test.YbulkdjcmW
namespace Go.Proofs.Ybulkdjcm
open Go.RowKit Go.ChangeMaps Go.Sort
attribute [local go_sem] run_make

set_option maxHeartbeats 4000000 in
set_option maxRecDepth 1000000 in
theorem st1 {x0 x1 x2 x4 x5 x6 x7 x8 x9 x13 x14 x15 x16 x17 x18 x19 x20 x21 x22 x23 x24 x25 x26 x27 x28 x29 x30 x31 x32 x33 x34 x35 x36 x37 x38 x39 x40 x41 x42 x43 x44 x45 x46 x47 x48 x49 x50 x51 x52 x53 x54 x55 x56 x57 x58 x59 x60 x61 x62 x63 x64 x65 x66 x67 x68 x69 x70 x71 x72 x73 x74 x75 x76 x77 x78 x79 x80 x81 x82 x83 x84 x85 x86 x87 x88 x89 x90 x91 x92 x93 x94 x95 x96 x97 x98 x99 x100 x101 x102 x103 x104 x105 x106 x107 x108 x109 x110 x111 x112 x113 x114 x115 x116 x117 x118 x119 x120 x121 x122 x123 x124 x125 x126 x127 x128 x129 x130 x131 x132 x133 x134 x135 x136 x137 x138 x139 x140 x141 x142 x143 x144 x145 x146 x147 x148 x149 x150 x151 x152 x153 x154 x155 x156 x157 x158 x159 x160 x161 x162 x163 x164 x165 x166 x167 x168 x169 x170 x171 x172 x173 x174 x175 x176 x177 x178 x179 x180 x181 x182 x183 x184 x185 x186 x187 x188 x189 x190 x191 x192 x193 x194 x195 x196 x197 x198 x199 x200 x201 x202 x203 x204 x205 x206 x207 x208 x209 x210 x211 x212 x213 x214 x215 x216 x217 x218 x219 x220 x221 x222 x223 x224 x225 x226 x227 x228 x229 x230 x231 x232 x233 x234 x235 x236 x237 x238 x239 x240 x241 x242 x243 x244 x245 x246 x247 x248 x249 x250 x251 x252 x253 x254 x255 x256 x257 x258 x259 x260 x261 x262 x263 x264 x265 x266 x267 x268 x269 x270 x271 x272 x273 x274 x275 x276 x277 x278 x279 x280 x281 x282 x283 x284 x285 x286 x287 x288 x289 x290 x291 x292 x293 x294 x295 x296 x297 x298 x299 x300 x301 x302 x303 x304 x305 x306 x307 x308 x309 x310 x311 x312 x313 x314 x315 x316 x317 x318 x319 x320 x321 x322 x323 x324 x325 x326 x327 x328 x329 x330 x331 : Value} {Q : Exit → Act → World → Prop} (n : Int) (emask : Nat) (w W : World) (p0 : Pb w W n [] 0 []) (r0 : Pres W (w.heap.size + 1) [])
    (hQ : ∀ (u12 u40 u41 u42 u43 u44 u45 u46 u47 u48 u49 u50 u51 u52 u53 u54 u55 : Value) (wc : World), (∃ O ck, Pb w wc n O ck [] ∧ Pres wc (w.heap.size + 1) O) → Q .normal ⟨#[x0, x1, x2, .int .u8 emask, x4, x5, x6, x7, x8, x9, .map (some w.heap.size), .pointer (some ⟨w.heap.size + 1, 0, none⟩), u12, x13, x14, x15, x16, x17, x18, x19, x20, x21, x22, x23, x24, x25, x26, x27, x28, x29, x30, x31, x32, x33, x34, x35, x36, x37, x38, x39, u40, u41, u42, u43, u44, u45, u46, u47, u48, u49, u50, u51, u52, u53, u54, u55, x56, x57, x58, x59, x60, x61, x62, x63, x64, x65, x66, x67, x68, x69, x70, x71, x72, x73, x74, x75, x76, x77, x78, x79, x80, x81, x82, x83, x84, x85, x86, x87, x88, x89, x90, x91, x92, x93, x94, x95, x96, x97, x98, x99, x100, x101, x102, x103, x104, x105, x106, x107, x108, x109, x110, x111, x112, x113, x114, x115, x116, x117, x118, x119, x120, x121, x122, x123, x124, x125, x126, x127, x128, x129, x130, x131, x132, x133, x134, x135, x136, x137, x138, x139, x140, x141, x142, x143, x144, x145, x146, x147, x148, x149, x150, x151, x152, x153, x154, x155, x156, x157, x158, x159, x160, x161, x162, x163, x164, x165, x166, x167, x168, x169, x170, x171, x172, x173, x174, x175, x176, x177, x178, x179, x180, x181, x182, x183, x184, x185, x186, x187, x188, x189, x190, x191, x192, x193, x194, x195, x196, x197, x198, x199, x200, x201, x202, x203, x204, x205, x206, x207, x208, x209, x210, x211, x212, x213, x214, x215, x216, x217, x218, x219, x220, x221, x222, x223, x224, x225, x226, x227, x228, x229, x230, x231, x232, x233, x234, x235, x236, x237, x238, x239, x240, x241, x242, x243, x244, x245, x246, x247, x248, x249, x250, x251, x252, x253, x254, x255, x256, x257, x258, x259, x260, x261, x262, x263, x264, x265, x266, x267, x268, x269, x270, x271, x272, x273, x274, x275, x276, x277, x278, x279, x280, x281, x282, x283, x284, x285, x286, x287, x288, x289, x290, x291, x292, x293, x294, x295, x296, x297, x298, x299, x300, x301, x302, x303, x304, x305, x306, x307, x308, x309, x310, x311, x312, x313, x314, x315, x316, x317, x318, x319, x320, x321, x322, x323, x324, x325, x326, x327, x328, x329, x330, x331], []⟩ wc) :
    Code.wp Yba.prog ((Yba.f3.body.bind (blk 0)).getD .skip) Q ⟨#[x0, x1, x2, .int .u8 emask, x4, x5, x6, x7, x8, x9, .map (some w.heap.size), .pointer (some ⟨w.heap.size + 1, 0, none⟩), .int .i64 0, x13, x14, x15, x16, x17, x18, x19, x20, x21, x22, x23, x24, x25, x26, x27, x28, x29, x30, x31, x32, x33, x34, x35, x36, x37, x38, x39, x40, x41, x42, x43, x44, x45, x46, x47, x48, x49, x50, x51, x52, x53, x54, x55, x56, x57, x58, x59, x60, x61, x62, x63, x64, x65, x66, x67, x68, x69, x70, x71, x72, x73, x74, x75, x76, x77, x78, x79, x80, x81, x82, x83, x84, x85, x86, x87, x88, x89, x90, x91, x92, x93, x94, x95, x96, x97, x98, x99, x100, x101, x102, x103, x104, x105, x106, x107, x108, x109, x110, x111, x112, x113, x114, x115, x116, x117, x118, x119, x120, x121, x122, x123, x124, x125, x126, x127, x128, x129, x130, x131, x132, x133, x134, x135, x136, x137, x138, x139, x140, x141, x142, x143, x144, x145, x146, x147, x148, x149, x150, x151, x152, x153, x154, x155, x156, x157, x158, x159, x160, x161, x162, x163, x164, x165, x166, x167, x168, x169, x170, x171, x172, x173, x174, x175, x176, x177, x178, x179, x180, x181, x182, x183, x184, x185, x186, x187, x188, x189, x190, x191, x192, x193, x194, x195, x196, x197, x198, x199, x200, x201, x202, x203, x204, x205, x206, x207, x208, x209, x210, x211, x212, x213, x214, x215, x216, x217, x218, x219, x220, x221, x222, x223, x224, x225, x226, x227, x228, x229, x230, x231, x232, x233, x234, x235, x236, x237, x238, x239, x240, x241, x242, x243, x244, x245, x246, x247, x248, x249, x250, x251, x252, x253, x254, x255, x256, x257, x258, x259, x260, x261, x262, x263, x264, x265, x266, x267, x268, x269, x270, x271, x272, x273, x274, x275, x276, x277, x278, x279, x280, x281, x282, x283, x284, x285, x286, x287, x288, x289, x290, x291, x292, x293, x294, x295, x296, x297, x298, x299, x300, x301, x302, x303, x304, x305, x306, x307, x308, x309, x310, x311, x312, x313, x314, x315, x316, x317, x318, x319, x320, x321, x322, x323, x324, x325, x326, x327, x328, x329, x330, x331], []⟩ W := by
  conv => arg 2; whnf
  have HQ := hide hQ
  clear hQ
  have H0 := hide (And.intro p0 r0)
  clear p0 r0
  go_wp2_with fail
  go_loopw [12] (fun v wr => ∃ (i : Nat) (O : List (Nat × Nat × Nat)) (ck : Nat), i ≤ 8 ∧ v = .int .i64 i ∧ Pb w wr n O ck [] ∧ Pres wr (w.heap.size + 1) O ∧ ∀ e ∈ O, e.1 < i) (fun v _ => 8 - (intOf v).toNat)
  case atStart => exact ⟨0, [], 0, by omega, rfl, H0.out.1, H0.out.2, fun e he => by cases he⟩
  case round =>
    clear H0
    obtain ⟨i, O, ck, hi, rfl, hp, hr, hlt⟩ := hrel
    by_cases hi8 : i < 8
    · have hk : i ∉ keys O := fun h => by
        obtain ⟨x, hx, he⟩ := List.mem_map.1 h
        have := hlt x hx
        omega
      obtain ⟨e1, e2, hp2⟩ := hp.make hi8 hk
      have oa : Ot (fun k => k = w.heap.size) wr (setBlock (wr.alloc (.map #[] 0)) w.heap.size (mobj sk VO (O ++ [(i, wr.heap.size, ck)]) (ck + 1))) := ((Ot.refl _ _).alloc _).setBlock _ _ (fun _ => rfl)
      have hr2 := hr.ot oa (by omega)
      have hup := run_update_mine (P := Yba.prog) (w := wr.alloc (.map #[] 0)) Yba.underlying25 keys9 hi8 hp.low (by rw [Below.heap_alloc _ _ _ (lt_of_block hp.pubs)]; exact hp.pubs) wr.heap.size
      rw [e1, e2] at hup
      generalize hW : setBlock (wr.alloc (.map #[] 0)) w.heap.size (mobj sk VO (O ++ [(i, wr.heap.size, ck)]) (ck + 1)) = w5 at hup hp2 hr2
      have hc5 := (hr2 i hi8).1
      have hf5 := (hr2 i hi8).2
      have HR := hide (And.intro hp (And.intro hr (And.intro hlt (And.intro hp2 (And.intro hr2 hup)))))
      clear hp hr hlt hp2 hr2 hup hW oa e1 e2
      have hii : (i : Int) < 8 := by omega
      go_wp2_with (first
        | (go_at_call 4; refine (name_at i hi8 _).mono ?_; rintro e w' ⟨rfl, rfl⟩)
        | (at_mapUpdate; refine wpList_update_run _ rfl _ _ _ _ rfl _ HR.out.2.2.2.2.2 ?_)
        | fail)
      · refine ⟨⟨i + 1, _, _, by omega, by go_num, HR.out.2.2.2.1.ot ((Ot.refl (fun k => k = w.heap.size + 1) w5).setCell (fun _ => rfl) _) (fun k h => h), HR.out.2.2.2.2.1.set hi8 (fun j => ?_), fun e he => ?_⟩, by simp [intOf]; omega⟩
        · unfold keys
          rw [List.map_append]
          simp [or_comm]
        · rcases List.mem_append.1 he with he | he
          · have := HR.out.2.2.1 e he
            omega
          · simp at he
            subst he
            simp
      · exact ⟨⟨i + 1, O, ck, by omega, by go_num, HR.out.1, HR.out.2.1, fun e he => by have := HR.out.2.2.1 e he; omega⟩, by simp [intOf]; omega⟩
    · have hii : ¬ (i : Int) < 8 := by omega
      have HR := hide (And.intro hp hr)
      clear hp hr hlt
      go_wp2_with fail
      refine HQ.out _ _ _ _ _ _ _ _ _ _ _ _ _ _ _ _ _ _ ?_
      exact ⟨O, ck, HR.out.1, HR.out.2⟩

end Go.Proofs.Ybulkdjcm
