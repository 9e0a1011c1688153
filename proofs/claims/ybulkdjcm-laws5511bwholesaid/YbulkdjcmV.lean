/-
  THE LAW (func 3): ONE LOOP: block 14 of her body.
-/
import Derived.Test.YbulkdjcmW
namespace Go.Proofs.Ybulkdjcm
open Go.RowKit Go.ChangeMaps Go.Sort
attribute [local go_sem] run_make

set_option maxHeartbeats 4000000 in
set_option maxRecDepth 1000000 in
theorem st7 {x0 x1 x3 x4 x5 x6 x7 x8 x9 x10 x12 x13 x14 x15 x16 x17 x18 x19 x21 x22 x23 x24 x25 x26 x27 x28 x29 x30 x31 x34 x35 x36 x37 x38 x39 x40 x41 x42 x43 x44 x45 x46 x47 x48 x49 x50 x51 x52 x53 x54 x55 x56 x57 x58 x59 x60 x61 x62 x63 x64 x65 x66 x67 x68 x69 x70 x71 x72 x73 x74 x75 x76 x77 x78 x79 x80 x81 x82 x83 x84 x85 x86 x87 x88 x89 x90 x91 x92 x93 x94 x95 x96 x97 x98 x99 x100 x101 x102 x103 x104 x105 x106 x107 x108 x109 x110 x111 x112 x113 x114 x115 x116 x117 x118 x119 x120 x121 x122 x123 x124 x125 x126 x127 x128 x129 x130 x131 x132 x133 x134 x135 x136 x137 x138 x139 x140 x141 x142 x143 x144 x145 x146 x147 x148 x149 x150 x151 x152 x153 x154 x155 x156 x157 x158 x159 x160 x161 x162 x163 x164 x165 x166 x167 x168 x169 x170 x171 x172 x173 x174 x175 x176 x177 x178 x179 x180 x181 x182 x183 x184 x185 x186 x187 x188 x189 x190 x191 x192 x193 x194 x195 x196 x197 x198 x199 x200 x201 x202 x203 x204 x205 x206 x207 x208 x209 x210 x211 x212 x213 x214 x215 x216 x217 x218 x219 x220 x221 x222 x223 x224 x225 x226 x227 x228 x229 x230 x231 x232 x233 x234 x235 x236 x237 x238 x239 x240 x241 x242 x243 x244 x245 x246 x247 x248 x249 x250 x251 x252 x253 x254 x255 x256 x257 x258 x259 x260 x261 x262 x263 x264 x265 x266 x267 x268 x269 x270 x271 x272 x273 x274 x275 x276 x277 x278 x279 x280 x281 x282 x283 x284 x285 x286 x287 x288 x289 x290 x291 x292 x293 x294 x295 x296 x297 x298 x299 x300 x301 x302 x303 x304 x305 x306 x307 x308 x309 x310 x311 x312 x313 x314 x315 x316 x317 x318 x319 x320 x321 x322 x323 x324 x325 x326 x327 x328 x329 x330 x331 : Value} {Q : Exit → Act → World → Prop} (n : Int) (nmask L bc q4 : Nat) (E : List Ent) (w w10 : World) (O : List (Nat × Nat × Nat)) (ck : Nat) (v4 : Value) (hL : E.length = L) (hlen : L ≤ 4096) (HFA : Hid (Fs w w10 n nmask O ck E bc v4 ∧ KPs w10 q4 (fun k => cnt k E L)))
    (hQ : ∀ (u32 u33 u34 u293 u294 u295 u296 u297 u298 u299 u300 u301 u302 u303 u304 u305 u306 u307 u308 u309 u310 u311 u312 u313 u314 u315 u316 u317 u318 u319 u320 u321 u322 u323 u324 u325 : Value) (wc : World), (Mo wc w10.heap.size u32 (NF nmask O E) ∧ Below w10.heap.size w10 wc) → Q .normal ⟨#[x0, x1, .int .u8 nmask, x3, x4, x5, x6, x7, x8, x9, x10, .pointer (some ⟨w.heap.size + 1, 0, none⟩), x12, x13, x14, x15, x16, x17, x18, x19, .pointer (some ⟨q4, 0, none⟩), x21, x22, x23, x24, x25, x26, x27, x28, x29, x30, x31, u32, u33, u34, x35, x36, x37, x38, x39, x40, x41, x42, x43, x44, x45, x46, x47, x48, x49, x50, x51, x52, x53, x54, x55, x56, x57, x58, x59, x60, x61, x62, x63, x64, x65, x66, x67, x68, x69, x70, x71, x72, x73, x74, x75, x76, x77, x78, x79, x80, x81, x82, x83, x84, x85, x86, x87, x88, x89, x90, x91, x92, x93, x94, x95, x96, x97, x98, x99, x100, x101, x102, x103, x104, x105, x106, x107, x108, x109, x110, x111, x112, x113, x114, x115, x116, x117, x118, x119, x120, x121, x122, x123, x124, x125, x126, x127, x128, x129, x130, x131, x132, x133, x134, x135, x136, x137, x138, x139, x140, x141, x142, x143, x144, x145, x146, x147, x148, x149, x150, x151, x152, x153, x154, x155, x156, x157, x158, x159, x160, x161, x162, x163, x164, x165, x166, x167, x168, x169, x170, x171, x172, x173, x174, x175, x176, x177, x178, x179, x180, x181, x182, x183, x184, x185, x186, x187, x188, x189, x190, x191, x192, x193, x194, x195, x196, x197, x198, x199, x200, x201, x202, x203, x204, x205, x206, x207, x208, x209, x210, x211, x212, x213, x214, x215, x216, x217, x218, x219, x220, x221, x222, x223, x224, x225, x226, x227, x228, x229, x230, x231, x232, x233, x234, x235, x236, x237, x238, x239, x240, x241, x242, x243, x244, x245, x246, x247, x248, x249, x250, x251, x252, x253, x254, x255, x256, x257, x258, x259, x260, x261, x262, x263, x264, x265, x266, x267, x268, x269, x270, x271, x272, x273, x274, x275, x276, x277, x278, x279, x280, x281, x282, x283, x284, x285, x286, x287, x288, x289, x290, x291, x292, u293, u294, u295, u296, u297, u298, u299, u300, u301, u302, u303, u304, u305, u306, u307, u308, u309, u310, u311, u312, u313, u314, u315, u316, u317, u318, u319, u320, u321, u322, u323, u324, u325, x326, x327, x328, x329, x330, x331], []⟩ wc) :
    Code.wp Yba.prog ((Yba.f3.body.bind (blk 14)).getD .skip) Q ⟨#[x0, x1, .int .u8 nmask, x3, x4, x5, x6, x7, x8, x9, x10, .pointer (some ⟨w.heap.size + 1, 0, none⟩), x12, x13, x14, x15, x16, x17, x18, x19, .pointer (some ⟨q4, 0, none⟩), x21, x22, x23, x24, x25, x26, x27, x28, x29, x30, x31, .slice none 0 0, .int .i64 0, x34, x35, x36, x37, x38, x39, x40, x41, x42, x43, x44, x45, x46, x47, x48, x49, x50, x51, x52, x53, x54, x55, x56, x57, x58, x59, x60, x61, x62, x63, x64, x65, x66, x67, x68, x69, x70, x71, x72, x73, x74, x75, x76, x77, x78, x79, x80, x81, x82, x83, x84, x85, x86, x87, x88, x89, x90, x91, x92, x93, x94, x95, x96, x97, x98, x99, x100, x101, x102, x103, x104, x105, x106, x107, x108, x109, x110, x111, x112, x113, x114, x115, x116, x117, x118, x119, x120, x121, x122, x123, x124, x125, x126, x127, x128, x129, x130, x131, x132, x133, x134, x135, x136, x137, x138, x139, x140, x141, x142, x143, x144, x145, x146, x147, x148, x149, x150, x151, x152, x153, x154, x155, x156, x157, x158, x159, x160, x161, x162, x163, x164, x165, x166, x167, x168, x169, x170, x171, x172, x173, x174, x175, x176, x177, x178, x179, x180, x181, x182, x183, x184, x185, x186, x187, x188, x189, x190, x191, x192, x193, x194, x195, x196, x197, x198, x199, x200, x201, x202, x203, x204, x205, x206, x207, x208, x209, x210, x211, x212, x213, x214, x215, x216, x217, x218, x219, x220, x221, x222, x223, x224, x225, x226, x227, x228, x229, x230, x231, x232, x233, x234, x235, x236, x237, x238, x239, x240, x241, x242, x243, x244, x245, x246, x247, x248, x249, x250, x251, x252, x253, x254, x255, x256, x257, x258, x259, x260, x261, x262, x263, x264, x265, x266, x267, x268, x269, x270, x271, x272, x273, x274, x275, x276, x277, x278, x279, x280, x281, x282, x283, x284, x285, x286, x287, x288, x289, x290, x291, x292, x293, x294, x295, x296, x297, x298, x299, x300, x301, x302, x303, x304, x305, x306, x307, x308, x309, x310, x311, x312, x313, x314, x315, x316, x317, x318, x319, x320, x321, x322, x323, x324, x325, x326, x327, x328, x329, x330, x331], []⟩ w10 := by
  conv => arg 2; whnf
  have HQ := hide hQ
  clear hQ
  have hLi : (L : Int) ≤ 4096 := by omega
  obtain ⟨i0, hi0, hz0, hz1, hz2⟩ := info_parts Yba.info9p
  go_wp2_with fail
  go_loopw [32, 33] (fun v x wr => ∃ i : Nat, i ≤ 8 ∧ x = .int .i64 i ∧ Mo wr w10.heap.size v ((List.range i).filter (wt nmask O E)) ∧ Below w10.heap.size w10 wr) (fun _ x _ => 8 - (intOf x).toNat)
  case atStart => exact ⟨0, by omega, rfl, Mo.nil _ _, Below.refl _ _⟩
  case round =>
    obtain ⟨i, hi8, rfl, hown, hb⟩ := hrel
    by_cases hi : i < 8
    · have hii : (i : Int) < 8 := by omega
      have hF := HFA.out.1.kept hb
      have hc := (hF.pres i hi).1
      have hq := (HFA.out.2.ot (Ot.of_below (fun _ => False) hb) (fun h => h) i hi).1
      have hM : ((List.range i).filter (wt nmask O E)).length ≤ i := Nat.le_trans (List.length_filter_le ..) (by simp)
      have hck := cnt_kp i E
      rw [hL] at hck
      have hcl := cnt_le i E L
      have HR := hide hb
      have hsz := hb.size
      have HSU := hide (filter_range_succ (wt nmask O E) i)
      have HW := hide hown
      clear hF hb hown
      have hend : ∀ (v' : Value) (w2 : World), w2.ownsRow w10.heap.size 9 1 v' (((List.range i).filter (wt nmask O E)).length + 1) (((List.range i).filter (wt nmask O E)).map sk ++ [.string (nm i)]) → (wr.alloc (.cells #[.string (nm i)] 9)).grownBy w2 (Value.ownBlock u32) → wt nmask O E i = true →
          (∃ i_1 : Nat, i_1 ≤ 8 ∧ Value.int IntKind.i64 ((i : Int) + 1) = Value.int IntKind.i64 i_1 ∧ Mo w2 w10.heap.size v' ((List.range i_1).filter (wt nmask O E)) ∧ Below w10.heap.size w10 w2) := by
        intro v' w2 ho hg hl
        refine ⟨i + 1, by omega, by go_num, ?_, (HR.out.alloc HR.out.size _).grown hg (by simp; omega) (fun j hj => (HW.out.lt j hj).1)⟩
        unfold Mo
        rw [HSU.out, hl]
        simpa [sk] using ho
      have HEND := hide hend
      clear hend
      have hstay : wt nmask O E i = false → (∃ i_1 : Nat, i_1 ≤ 8 ∧ Value.int IntKind.i64 ((i : Int) + 1) = Value.int IntKind.i64 i_1 ∧ Mo wr w10.heap.size u32 ((List.range i_1).filter (wt nmask O E)) ∧ Below w10.heap.size w10 wr) := by
        intro hl
        refine ⟨i + 1, by omega, by go_num, ?_, HR.out⟩
        rw [HSU.out, hl]
        simpa using HW.out
      have HST := hide hstay
      clear hstay HSU
      generalize hlen : ((List.range i).filter (wt nmask O E)).length = ln at hM HEND
      have hgoal : ∀ (bt pr : Bool) (kn : Nat), (decide (bits BinOp.and IntKind.u8 ((nmask : Int) / 2 ^ i) 1 = 1) = bt) → decide (i ∈ keys O) = pr → cnt i E L = kn → wt nmask O E i = ((bt || pr) && !(pr && decide (kn = 0))) := by
        intro bt pr kn h1 h2 h3
        have h4 : decide (kn = 0) = (kp (st i E).1).isEmpty := by
          rw [← h3, hck]
          cases kp (st i E).1 <;> simp
        simp [wt, ls, h1, h2, h4]
      have HG := hide hgoal
      clear hgoal hck
      generalize hkn : cnt i E L = kn at hq hcl HG
      by_cases hb : bits BinOp.and IntKind.u8 ((nmask : Int) / 2 ^ i) 1 = 1
      · by_cases hk : i ∈ keys O
        · rw [decide_eq_true hk] at hc
          by_cases hz : kn = 0
          · have hw : wt nmask O E i = false := by rw [HG.out true true kn (decide_eq_true hb) (decide_eq_true hk) rfl]; simp [hz]
            have HWt := hide hw
            clear hw
            subst hz
            go_wp2_with fail
            exact ⟨HST.out HWt.out, by simp [intOf]; omega⟩
          · have hw : wt nmask O E i = true := by rw [HG.out true true kn (decide_eq_true hb) (decide_eq_true hk) rfl]; simp [hz]
            have HWt := hide hw
            have hzi : (((kn : Nat) : Int) == 0) = false := by simp; omega
            clear hw
            go_wp2_with (first
              | (go_at_call 4; refine (name_at i hi _).mono ?_; rintro e w' ⟨rfl, rfl⟩)
              | (at_builtin; refine wpList_append_own _ rfl _ _ 45 rfl w10.heap.size 9 i0 (.string ⟨#[]⟩) 1 16 Yba.underlying45 hi0 hz0 hz1 hz2 rfl (by decide) _ ln _ rfl (World.ownsRow.alloc (by have := HW.out; unfold Mo at this; rw [hlen] at this; exact this) _) ⟨wr.heap.size, 0, none⟩ 1 1 [.string (nm i)] rfl rfl (cell_one_new _ _ _) (fun u hu => by simp at hu; subst hu; rfl) (by unfold maxLen; omega) (by omega) (by simp; omega) ?_; intro v' w2 hown2 hg2 hnil2)
              | fail)
            exact ⟨HEND.out v' w2 hown2 hg2 HWt.out, by simp [intOf]; omega⟩
        · rw [decide_eq_false hk] at hc
          have hw : wt nmask O E i = true := by rw [HG.out true false kn (decide_eq_true hb) (decide_eq_false hk) rfl]; simp
          have HWt := hide hw
          clear hw
          go_wp2_with (first
            | (go_at_call 4; refine (name_at i hi _).mono ?_; rintro e w' ⟨rfl, rfl⟩)
            | (at_builtin; refine wpList_append_own _ rfl _ _ 45 rfl w10.heap.size 9 i0 (.string ⟨#[]⟩) 1 16 Yba.underlying45 hi0 hz0 hz1 hz2 rfl (by decide) _ ln _ rfl (World.ownsRow.alloc (by have := HW.out; unfold Mo at this; rw [hlen] at this; exact this) _) ⟨wr.heap.size, 0, none⟩ 1 1 [.string (nm i)] rfl rfl (cell_one_new _ _ _) (fun u hu => by simp at hu; subst hu; rfl) (by unfold maxLen; omega) (by omega) (by simp; omega) ?_; intro v' w2 hown2 hg2 hnil2)
            | fail)
          exact ⟨HEND.out v' w2 hown2 hg2 HWt.out, by simp [intOf]; omega⟩
      · by_cases hk : i ∈ keys O
        · rw [decide_eq_true hk] at hc
          by_cases hz : kn = 0
          · have hw : wt nmask O E i = false := by rw [HG.out false true kn (decide_eq_false hb) (decide_eq_true hk) rfl]; simp [hz]
            have HWt := hide hw
            clear hw
            subst hz
            go_wp2_with fail
            exact ⟨HST.out HWt.out, by simp [intOf]; omega⟩
          · have hw : wt nmask O E i = true := by rw [HG.out false true kn (decide_eq_false hb) (decide_eq_true hk) rfl]; simp [hz]
            have HWt := hide hw
            have hzi : (((kn : Nat) : Int) == 0) = false := by simp; omega
            clear hw
            go_wp2_with (first
              | (go_at_call 4; refine (name_at i hi _).mono ?_; rintro e w' ⟨rfl, rfl⟩)
              | (at_builtin; refine wpList_append_own _ rfl _ _ 45 rfl w10.heap.size 9 i0 (.string ⟨#[]⟩) 1 16 Yba.underlying45 hi0 hz0 hz1 hz2 rfl (by decide) _ ln _ rfl (World.ownsRow.alloc (by have := HW.out; unfold Mo at this; rw [hlen] at this; exact this) _) ⟨wr.heap.size, 0, none⟩ 1 1 [.string (nm i)] rfl rfl (cell_one_new _ _ _) (fun u hu => by simp at hu; subst hu; rfl) (by unfold maxLen; omega) (by omega) (by simp; omega) ?_; intro v' w2 hown2 hg2 hnil2)
              | fail)
            exact ⟨HEND.out v' w2 hown2 hg2 HWt.out, by simp [intOf]; omega⟩
        · rw [decide_eq_false hk] at hc
          have hw : wt nmask O E i = false := by rw [HG.out false false kn (decide_eq_false hb) (decide_eq_false hk) rfl]; simp
          have HWt := hide hw
          clear hw
          go_wp2_with fail
          exact ⟨HST.out HWt.out, by simp [intOf]; omega⟩
    · have hii : ¬ (i : Int) < 8 := by omega
      have he : i = 8 := by omega
      subst he
      have HR := hide (And.intro hown hb)
      clear hown hb
      go_wp2_with fail
      refine HQ.out _ _ _ _ _ _ _ _ _ _ _ _ _ _ _ _ _ _ _ _ _ _ _ _ _ _ _ _ _ _ _ _ _ _ _ _ _ ?_
      rw [NF_wt]
      exact HR.out

end Go.Proofs.Ybulkdjcm
