/-
  THE LAW (func 3): ONE LOOP: block 10 of her body.
-/
import Derived.Test.YbulkdjcmW
namespace Go.Proofs.Ybulkdjcm
open Go.RowKit Go.ChangeMaps Go.Sort
attribute [local go_sem] run_make

set_option maxHeartbeats 4000000 in
set_option maxRecDepth 1000000 in
theorem st5 {x0 x1 x2 x3 x4 x5 x6 x7 x8 x9 x10 x12 x13 x14 x15 x16 x17 x18 x21 x22 x23 x26 x27 x28 x29 x30 x31 x32 x33 x34 x35 x36 x37 x38 x39 x40 x41 x42 x43 x44 x45 x46 x47 x48 x49 x50 x51 x52 x53 x54 x55 x56 x57 x58 x59 x60 x61 x62 x63 x64 x65 x66 x67 x68 x69 x70 x71 x72 x73 x74 x75 x76 x77 x78 x79 x80 x81 x82 x83 x84 x85 x86 x87 x88 x89 x90 x91 x92 x93 x94 x95 x96 x97 x98 x99 x100 x101 x102 x103 x104 x105 x106 x107 x108 x109 x110 x111 x112 x113 x114 x115 x116 x117 x118 x119 x120 x121 x122 x123 x124 x125 x126 x127 x128 x129 x130 x131 x132 x133 x134 x135 x136 x137 x138 x139 x140 x141 x142 x143 x144 x145 x146 x147 x148 x149 x150 x151 x152 x153 x154 x155 x156 x157 x158 x159 x160 x161 x162 x163 x164 x165 x166 x167 x168 x169 x170 x171 x172 x173 x174 x175 x176 x177 x178 x179 x180 x181 x182 x183 x184 x185 x186 x187 x188 x189 x190 x191 x192 x193 x194 x195 x196 x197 x198 x199 x200 x201 x202 x203 x204 x205 x206 x207 x208 x209 x210 x211 x212 x213 x214 x215 x216 x217 x218 x219 x220 x221 x222 x223 x224 x225 x226 x227 x228 x229 x230 x231 x232 x233 x234 x235 x236 x237 x238 x239 x240 x241 x242 x243 x244 x245 x246 x247 x248 x249 x250 x251 x252 x253 x254 x255 x256 x257 x258 x259 x260 x261 x262 x263 x264 x265 x266 x267 x268 x269 x270 x271 x272 x273 x274 x275 x276 x277 x278 x279 x280 x281 x282 x283 x284 x285 x286 x287 x288 x289 x290 x291 x292 x293 x294 x295 x296 x297 x298 x299 x300 x301 x302 x303 x304 x305 x306 x307 x308 x309 x310 x311 x312 x313 x314 x315 x316 x317 x318 x319 x320 x321 x322 x323 x324 x325 x326 x327 x328 x329 x330 x331 : Value} {Q : Exit → Act → World → Prop} (n : Int) (nmask L bc q4 : Nat) (E : List Ent) (w w4 w8 : World) (O : List (Nat × Nat × Nat)) (ck : Nat) (v4 : Value) (hL : E.length = L) (hlen : L ≤ 4096) (HF8 : Hid (Fs w w8 n nmask O ck E bc v4)) (H8 : Hid (Below q4 w4 w8 ∧ FLs w8 (q4 + 1) L (fun i => fin E i) ∧ KPs w8 q4 (fun k => cnt k E L)))
    (hQ : ∀ (u8 u24 u25 u26 u27 u189 u190 u191 u192 u193 u194 u195 u196 u197 u198 u199 u200 u201 u202 u203 u204 u205 u206 u207 u208 u209 u210 u211 u212 u213 u214 u215 u216 u217 u218 u219 u220 u221 u222 u223 u224 : Value) (wc : World), (u24 = .int .i64 (((List.range 8).filter (lv O E)).length : Nat) ∧ ∃ d, wc = w8.drewN d) → Q .normal ⟨#[x0, x1, x2, x3, x4, x5, x6, x7, u8, x9, x10, .pointer (some ⟨w.heap.size + 1, 0, none⟩), x12, x13, x14, x15, x16, x17, x18, .pointer (some ⟨bc, 0, none⟩), .pointer (some ⟨q4, 0, none⟩), x21, x22, x23, u24, u25, u26, u27, x28, x29, x30, x31, x32, x33, x34, x35, x36, x37, x38, x39, x40, x41, x42, x43, x44, x45, x46, x47, x48, x49, x50, x51, x52, x53, x54, x55, x56, x57, x58, x59, x60, x61, x62, x63, x64, x65, x66, x67, x68, x69, x70, x71, x72, x73, x74, x75, x76, x77, x78, x79, x80, x81, x82, x83, x84, x85, x86, x87, x88, x89, x90, x91, x92, x93, x94, x95, x96, x97, x98, x99, x100, x101, x102, x103, x104, x105, x106, x107, x108, x109, x110, x111, x112, x113, x114, x115, x116, x117, x118, x119, x120, x121, x122, x123, x124, x125, x126, x127, x128, x129, x130, x131, x132, x133, x134, x135, x136, x137, x138, x139, x140, x141, x142, x143, x144, x145, x146, x147, x148, x149, x150, x151, x152, x153, x154, x155, x156, x157, x158, x159, x160, x161, x162, x163, x164, x165, x166, x167, x168, x169, x170, x171, x172, x173, x174, x175, x176, x177, x178, x179, x180, x181, x182, x183, x184, x185, x186, x187, x188, u189, u190, u191, u192, u193, u194, u195, u196, u197, u198, u199, u200, u201, u202, u203, u204, u205, u206, u207, u208, u209, u210, u211, u212, u213, u214, u215, u216, u217, u218, u219, u220, u221, u222, u223, u224, x225, x226, x227, x228, x229, x230, x231, x232, x233, x234, x235, x236, x237, x238, x239, x240, x241, x242, x243, x244, x245, x246, x247, x248, x249, x250, x251, x252, x253, x254, x255, x256, x257, x258, x259, x260, x261, x262, x263, x264, x265, x266, x267, x268, x269, x270, x271, x272, x273, x274, x275, x276, x277, x278, x279, x280, x281, x282, x283, x284, x285, x286, x287, x288, x289, x290, x291, x292, x293, x294, x295, x296, x297, x298, x299, x300, x301, x302, x303, x304, x305, x306, x307, x308, x309, x310, x311, x312, x313, x314, x315, x316, x317, x318, x319, x320, x321, x322, x323, x324, x325, x326, x327, x328, x329, x330, x331], []⟩ wc) :
    Code.wp Yba.prog ((Yba.f3.body.bind (blk 10)).getD .skip) Q ⟨#[x0, x1, x2, x3, x4, x5, x6, x7, x8, x9, x10, .pointer (some ⟨w.heap.size + 1, 0, none⟩), x12, x13, x14, x15, x16, x17, x18, .pointer (some ⟨bc, 0, none⟩), .pointer (some ⟨q4, 0, none⟩), x21, x22, x23, .int .i64 0, .int .i64 0, x26, x27, x28, x29, x30, x31, x32, x33, x34, x35, x36, x37, x38, x39, x40, x41, x42, x43, x44, x45, x46, x47, x48, x49, x50, x51, x52, x53, x54, x55, x56, x57, x58, x59, x60, x61, x62, x63, x64, x65, x66, x67, x68, x69, x70, x71, x72, x73, x74, x75, x76, x77, x78, x79, x80, x81, x82, x83, x84, x85, x86, x87, x88, x89, x90, x91, x92, x93, x94, x95, x96, x97, x98, x99, x100, x101, x102, x103, x104, x105, x106, x107, x108, x109, x110, x111, x112, x113, x114, x115, x116, x117, x118, x119, x120, x121, x122, x123, x124, x125, x126, x127, x128, x129, x130, x131, x132, x133, x134, x135, x136, x137, x138, x139, x140, x141, x142, x143, x144, x145, x146, x147, x148, x149, x150, x151, x152, x153, x154, x155, x156, x157, x158, x159, x160, x161, x162, x163, x164, x165, x166, x167, x168, x169, x170, x171, x172, x173, x174, x175, x176, x177, x178, x179, x180, x181, x182, x183, x184, x185, x186, x187, x188, x189, x190, x191, x192, x193, x194, x195, x196, x197, x198, x199, x200, x201, x202, x203, x204, x205, x206, x207, x208, x209, x210, x211, x212, x213, x214, x215, x216, x217, x218, x219, x220, x221, x222, x223, x224, x225, x226, x227, x228, x229, x230, x231, x232, x233, x234, x235, x236, x237, x238, x239, x240, x241, x242, x243, x244, x245, x246, x247, x248, x249, x250, x251, x252, x253, x254, x255, x256, x257, x258, x259, x260, x261, x262, x263, x264, x265, x266, x267, x268, x269, x270, x271, x272, x273, x274, x275, x276, x277, x278, x279, x280, x281, x282, x283, x284, x285, x286, x287, x288, x289, x290, x291, x292, x293, x294, x295, x296, x297, x298, x299, x300, x301, x302, x303, x304, x305, x306, x307, x308, x309, x310, x311, x312, x313, x314, x315, x316, x317, x318, x319, x320, x321, x322, x323, x324, x325, x326, x327, x328, x329, x330, x331], []⟩ w8 := by
  conv => arg 2; whnf
  have HQ := hide hQ
  clear hQ
  have hLi : (L : Int) ≤ 4096 := by omega
  go_wp2_with fail
  go_loopw [24, 25] (fun v x wr => ∃ i : Nat, i ≤ 8 ∧ x = .int .i64 i ∧ v = .int .i64 (((List.range i).filter (lv O E)).length : Nat) ∧ ∃ d, wr = w8.drewN d) (fun _ x _ => 8 - (intOf x).toNat)
  case atStart => exact ⟨0, by omega, rfl, rfl, 0, rfl⟩
  case round =>
    obtain ⟨i, hi8, rfl, rfl, d, hwd⟩ := hrel
    by_cases hi : i < 8
    · have hii : (i : Int) < 8 := by omega
      have hle : ((List.range i).filter (lv O E)).length ≤ i := Nat.le_trans (List.length_filter_le ..) (by simp)
      have hsucc := filter_range_succ (lv O E) i
      have hk := cnt_kp i E
      rw [hL] at hk
      have hcnt := cnt_le i E L
      have facts : ∀ W : World, W.heap = w8.heap → W.cell? ⟨bc, 155, none⟩ = some (.map (some w.heap.size)) ∧ W.cell? ⟨w.heap.size + 1, i, none⟩ = some (.bool (decide (i ∈ keys O))) ∧ W.cell? ⟨q4, i, none⟩ = some (.int .i64 (cnt i E L)) := fun W hW => by
        have e : ∀ p, W.cell? p = w8.cell? p := fun p => World.cell?_of_block (by rw [hW])
        rw [e, e, e]
        exact ⟨HF8.out.ptr, (HF8.out.pres i hi).1, (H8.out.2.2 i hi).1⟩
      have hlook : ∀ (W : World), W.heap = w8.heap → ∀ q, (Instr.lookup 25 (.map (some w.heap.size)) (.string (nm i)) true).run Yba.prog (W.drewN q) = .ok (.tuple #[((lk i (O.filter fun e => !(kp (st e.1 E).1).isEmpty)).map VO).getD (.map none), .bool (lk i (O.filter fun e => !(kp (st e.1 E).1).isEmpty)).isSome]) (W.drewN q) := fun W hW q => by
        have := run_lookup_mine (P := Yba.prog) (w := W.drewN q) (V := VO) Yba.underlying25 keys9 hi (fun e he => HF8.out.low e (List.mem_filter.1 he).1) (b := w.heap.size) (c := ck) (by show W.heap[_]? = _; rw [hW]; exact HF8.out.pubs) (.map none) (by kernel_rfl) true
        simpa [sk] using this
      have hwh : wr.heap = w8.heap := by rw [hwd]; rfl
      obtain ⟨f1, f2, f3⟩ := facts wr hwh
      have hlk := hlook wr hwh
      have HFA := hide facts
      have HWD := hide (And.intro hwd hwh)
      have HSU := hide hsucc
      clear facts hlook hwd hwh hsucc
      obtain ⟨hla, hlb⟩ := lk_live (O := O) (E := E) HF8.out.wf (i := i)
      cases hlv : lv O E i with
      | true =>
        obtain ⟨bi, s, hm, hb⟩ := hla hlv
        rw [hb] at hlk
        simp only [Option.map_some, Option.getD_some, Option.isSome_some, VO] at hlk
        clear hla hlb
        go_upto_region 48 with (fail)
        go_quiet ((go_at_call 4; refine Calls.quiet_of_same (name_any i hi _)))
        obtain ⟨wz, hwz⟩ : ∃ wz, wz = wr.drewN nq := ⟨_, rfl⟩
        rw [← hwz]
        have hzh : wz.heap = w8.heap := by rw [hwz]; exact HWD.out.2
        have hzd : ∃ d, wz = w8.drewN d := ⟨d + nq, by rw [hwz, HWD.out.1, drewN_drewN]⟩
        obtain ⟨g1, g2, g3⟩ := HFA.out wz hzh
        have hlv2 := hlv
        simp only [lv, Bool.and_eq_true, decide_eq_true_eq] at hlv2
        rw [decide_eq_true hlv2.1] at g2
        have hlen := fun q ty => run_len_mine (P := Yba.prog) (w := wz.drewN q) (ty := ty) Yba.underlying28 (by show wz.heap[_]? = _; rw [hzh]; exact HF8.out.map _ hm)
        simp only at hlen
        rw [← hk] at hlen
        have hpos : 0 < cnt i E L := by
          rw [hk]
          cases h : kp (st i E).1 with
          | nil => rw [h] at hlv2; simp at hlv2
          | cons _ _ => simp
        have hposi : (0 : Int) < (cnt i E L : Nat) := by omega
        rw [hlv] at HSU
        have HZD := hide hzd
        clear hlk f1 f2 f3 hwz hzh hzd hlv2 hk hb hm HFA HWD
        generalize cnt i E L = cn at *
        go_upto_region 51 with (fail)
        go_quiet (fail)
        go_wp2_with fail
        obtain ⟨d2, hd2⟩ := HZD.out
        refine ⟨⟨i + 1, by omega, by go_num, ?_, d2 + nq, by rw [hd2, drewN_drewN]⟩, by simp [intOf]; omega⟩
        rw [HSU.out, if_pos rfl, List.length_append, List.length_singleton]
        go_num
      | false =>
        rw [hlb hlv] at hlk
        simp only [Option.map_none, Option.getD_none, Option.isSome_none] at hlk
        clear hla hlb
        go_upto_region 48 with (fail)
        go_quiet ((go_at_call 4; refine Calls.quiet_of_same (name_any i hi _)))
        obtain ⟨wz, hwz⟩ : ∃ wz, wz = wr.drewN nq := ⟨_, rfl⟩
        rw [← hwz]
        have hzh : wz.heap = w8.heap := by rw [hwz]; exact HWD.out.2
        have hzd : ∃ d, wz = w8.drewN d := ⟨d + nq, by rw [hwz, HWD.out.1, drewN_drewN]⟩
        obtain ⟨g1, g2, g3⟩ := HFA.out wz hzh
        rw [hlv] at HSU
        have hend : ∃ i_1 : Nat, i_1 ≤ 8 ∧ Value.int IntKind.i64 ((i : Int) + 1) = Value.int IntKind.i64 i_1 ∧ Value.int IntKind.i64 (((List.range i).filter (lv O E)).length : Nat) = Value.int IntKind.i64 (((List.range i_1).filter (lv O E)).length : Nat) ∧ ∃ d, wz = w8.drewN d := by
          refine ⟨i + 1, by omega, by go_num, ?_, hzd⟩
          rw [HSU.out, if_neg (by simp), List.append_nil]
        have HEND := hide hend
        by_cases hko : i ∈ keys O
        · have hc0 : cnt i E L = 0 := by
            rw [hk]
            simp only [lv, hko, decide_true, Bool.true_and, Bool.not_eq_false'] at hlv
            rw [List.isEmpty_iff.1 hlv]
            rfl
          rw [decide_eq_true hko] at g2
          rw [hc0] at g3
          clear hlk f1 f2 f3 hwz hzh hzd hk HFA HWD hend hc0 hcnt
          go_wp2_with fail
          exact ⟨HEND.out, by simp [intOf]; omega⟩
        · rw [decide_eq_false hko] at g2
          clear hlk f1 f2 f3 hwz hzh hzd hk HFA HWD hend hcnt
          go_wp2_with fail
          exact ⟨HEND.out, by simp [intOf]; omega⟩
    · have hii : ¬ (i : Int) < 8 := by omega
      have he : i = 8 := by omega
      subst he
      have HWD := hide hwd
      clear hwd
      go_wp2_with fail
      refine HQ.out _ _ _ _ _ _ _ _ _ _ _ _ _ _ _ _ _ _ _ _ _ _ _ _ _ _ _ _ _ _ _ _ _ _ _ _ _ _ _ _ _ _ ?_
      exact ⟨rfl, d, HWD.out⟩

end Go.Proofs.Ybulkdjcm
