/-
  THE LAW (func 3): ONE LOOP: block 12 of her body.
-/
import Derived.Test.YbulkdjcmW
namespace Go.Proofs.Ybulkdjcm
open Go.RowKit Go.ChangeMaps Go.Sort
attribute [local go_sem] run_make

set_option maxHeartbeats 4000000 in
set_option maxRecDepth 1000000 in
theorem st6 {x0 x2 x3 x4 x5 x6 x7 x8 x10 x11 x12 x13 x14 x15 x16 x17 x18 x22 x23 x24 x25 x26 x27 x29 x30 x31 x32 x33 x34 x35 x36 x37 x38 x39 x40 x41 x42 x43 x44 x45 x46 x47 x48 x49 x50 x51 x52 x53 x54 x55 x56 x57 x58 x59 x60 x61 x62 x63 x64 x65 x66 x67 x68 x69 x70 x71 x72 x73 x74 x75 x76 x77 x78 x79 x80 x81 x82 x83 x84 x85 x86 x87 x88 x89 x90 x91 x92 x93 x94 x95 x96 x97 x98 x99 x100 x101 x102 x103 x104 x105 x106 x107 x108 x109 x110 x111 x112 x113 x114 x115 x116 x117 x118 x119 x120 x121 x122 x123 x124 x125 x126 x127 x128 x129 x130 x131 x132 x133 x134 x135 x136 x137 x138 x139 x140 x141 x142 x143 x144 x145 x146 x147 x148 x149 x150 x151 x152 x153 x154 x155 x156 x157 x158 x159 x160 x161 x162 x163 x164 x165 x166 x167 x168 x169 x170 x171 x172 x173 x174 x175 x176 x177 x178 x179 x180 x181 x182 x183 x184 x185 x186 x187 x188 x189 x190 x191 x192 x193 x194 x195 x196 x197 x198 x199 x200 x201 x202 x203 x204 x205 x206 x207 x208 x209 x210 x211 x212 x213 x214 x215 x216 x217 x218 x219 x220 x221 x222 x223 x224 x225 x226 x227 x228 x229 x230 x231 x232 x233 x234 x235 x236 x237 x238 x239 x240 x241 x242 x243 x244 x245 x246 x247 x248 x249 x250 x251 x252 x253 x254 x255 x256 x257 x258 x259 x260 x261 x262 x263 x264 x265 x266 x267 x268 x269 x270 x271 x272 x273 x274 x275 x276 x277 x278 x279 x280 x281 x282 x283 x284 x285 x286 x287 x288 x289 x290 x291 x292 x293 x294 x295 x296 x297 x298 x299 x300 x301 x302 x303 x304 x305 x306 x307 x308 x309 x310 x311 x312 x313 x314 x315 x316 x317 x318 x319 x320 x321 x322 x323 x324 x325 x326 x327 x328 x329 x330 x331 : Value} {Q : Exit → Act → World → Prop} (n : Int) (nmask b off c1 L bc q4 : Nat) (a1 : Option Addr) (E : List Ent) (w w4 w9 : World) (O : List (Nat × Nat × Nat)) (ck : Nat) (v4 : Value) (HE : Hid (Er w a1 b off E)) (hL : E.length = L) (hlen : L ≤ 4096) (HF9 : Hid (Fs w w9 n nmask O ck E bc v4)) (H9 : Hid (Below q4 w4 w9 ∧ FLs w9 (q4 + 1) L (fun i => fin E i) ∧ KPs w9 q4 (fun k => cnt k E L)))
    (hQ : ∀ (u8 u28 u29 u30 u31 u232 u233 u234 u235 u236 u237 u238 u239 u240 u241 u242 u243 u244 u245 u246 u247 u248 u249 u250 u251 u252 u253 u254 u255 u256 u257 u258 u259 u260 u261 u262 u263 u264 u265 u266 u267 u268 u269 u270 u271 u272 u273 u274 u275 u276 u277 u278 u279 u280 u281 u282 u283 u284 u285 u286 u287 u288 u289 u290 u291 u292 : Value) (wc : World), (Below w9.heap.size w9 wc) → Q .normal ⟨#[x0, .slice a1 L c1, x2, x3, x4, x5, x6, x7, u8, .int .i64 n, x10, x11, x12, x13, x14, x15, x16, x17, x18, .pointer (some ⟨bc, 0, none⟩), .pointer (some ⟨q4, 0, none⟩), .slice (some ⟨q4 + 1, 0, none⟩) L L, x22, x23, x24, x25, x26, x27, u28, u29, u30, u31, x32, x33, x34, x35, x36, x37, x38, x39, x40, x41, x42, x43, x44, x45, x46, x47, x48, x49, x50, x51, x52, x53, x54, x55, x56, x57, x58, x59, x60, x61, x62, x63, x64, x65, x66, x67, x68, x69, x70, x71, x72, x73, x74, x75, x76, x77, x78, x79, x80, x81, x82, x83, x84, x85, x86, x87, x88, x89, x90, x91, x92, x93, x94, x95, x96, x97, x98, x99, x100, x101, x102, x103, x104, x105, x106, x107, x108, x109, x110, x111, x112, x113, x114, x115, x116, x117, x118, x119, x120, x121, x122, x123, x124, x125, x126, x127, x128, x129, x130, x131, x132, x133, x134, x135, x136, x137, x138, x139, x140, x141, x142, x143, x144, x145, x146, x147, x148, x149, x150, x151, x152, x153, x154, x155, x156, x157, x158, x159, x160, x161, x162, x163, x164, x165, x166, x167, x168, x169, x170, x171, x172, x173, x174, x175, x176, x177, x178, x179, x180, x181, x182, x183, x184, x185, x186, x187, x188, x189, x190, x191, x192, x193, x194, x195, x196, x197, x198, x199, x200, x201, x202, x203, x204, x205, x206, x207, x208, x209, x210, x211, x212, x213, x214, x215, x216, x217, x218, x219, x220, x221, x222, x223, x224, x225, x226, x227, x228, x229, x230, x231, u232, u233, u234, u235, u236, u237, u238, u239, u240, u241, u242, u243, u244, u245, u246, u247, u248, u249, u250, u251, u252, u253, u254, u255, u256, u257, u258, u259, u260, u261, u262, u263, u264, u265, u266, u267, u268, u269, u270, u271, u272, u273, u274, u275, u276, u277, u278, u279, u280, u281, u282, u283, u284, u285, u286, u287, u288, u289, u290, u291, u292, x293, x294, x295, x296, x297, x298, x299, x300, x301, x302, x303, x304, x305, x306, x307, x308, x309, x310, x311, x312, x313, x314, x315, x316, x317, x318, x319, x320, x321, x322, x323, x324, x325, x326, x327, x328, x329, x330, x331], []⟩ wc) :
    Code.wp Yba.prog ((Yba.f3.body.bind (blk 12)).getD .skip) Q ⟨#[x0, .slice a1 L c1, x2, x3, x4, x5, x6, x7, x8, .int .i64 n, x10, x11, x12, x13, x14, x15, x16, x17, x18, .pointer (some ⟨bc, 0, none⟩), .pointer (some ⟨q4, 0, none⟩), .slice (some ⟨q4 + 1, 0, none⟩) L L, x22, x23, x24, x25, x26, x27, .int .i64 0, x29, x30, x31, x32, x33, x34, x35, x36, x37, x38, x39, x40, x41, x42, x43, x44, x45, x46, x47, x48, x49, x50, x51, x52, x53, x54, x55, x56, x57, x58, x59, x60, x61, x62, x63, x64, x65, x66, x67, x68, x69, x70, x71, x72, x73, x74, x75, x76, x77, x78, x79, x80, x81, x82, x83, x84, x85, x86, x87, x88, x89, x90, x91, x92, x93, x94, x95, x96, x97, x98, x99, x100, x101, x102, x103, x104, x105, x106, x107, x108, x109, x110, x111, x112, x113, x114, x115, x116, x117, x118, x119, x120, x121, x122, x123, x124, x125, x126, x127, x128, x129, x130, x131, x132, x133, x134, x135, x136, x137, x138, x139, x140, x141, x142, x143, x144, x145, x146, x147, x148, x149, x150, x151, x152, x153, x154, x155, x156, x157, x158, x159, x160, x161, x162, x163, x164, x165, x166, x167, x168, x169, x170, x171, x172, x173, x174, x175, x176, x177, x178, x179, x180, x181, x182, x183, x184, x185, x186, x187, x188, x189, x190, x191, x192, x193, x194, x195, x196, x197, x198, x199, x200, x201, x202, x203, x204, x205, x206, x207, x208, x209, x210, x211, x212, x213, x214, x215, x216, x217, x218, x219, x220, x221, x222, x223, x224, x225, x226, x227, x228, x229, x230, x231, x232, x233, x234, x235, x236, x237, x238, x239, x240, x241, x242, x243, x244, x245, x246, x247, x248, x249, x250, x251, x252, x253, x254, x255, x256, x257, x258, x259, x260, x261, x262, x263, x264, x265, x266, x267, x268, x269, x270, x271, x272, x273, x274, x275, x276, x277, x278, x279, x280, x281, x282, x283, x284, x285, x286, x287, x288, x289, x290, x291, x292, x293, x294, x295, x296, x297, x298, x299, x300, x301, x302, x303, x304, x305, x306, x307, x308, x309, x310, x311, x312, x313, x314, x315, x316, x317, x318, x319, x320, x321, x322, x323, x324, x325, x326, x327, x328, x329, x330, x331], []⟩ w9 := by
  conv => arg 2; whnf
  have HQ := hide hQ
  clear hQ
  have hLi : (L : Int) ≤ 4096 := by omega
  go_wp2_with fail
  go_loopw [28] (fun v wr => ∃ j : Nat, j ≤ L ∧ v = .int .i64 j ∧ Below w9.heap.size w9 wr) (fun v _ => L - (intOf v).toNat)
  case atStart => exact ⟨0, by omega, rfl, Below.refl _ _⟩
  case round =>
    obtain ⟨j, hj, rfl, hb⟩ := hrel
    by_cases hjL : j < L
    · have hji : (j : Int) < L := by omega
      have hj' : j < E.length := by omega
      obtain rfl := HE.out.addr (by omega)
      have hbl := HE.out.lt (by omega)
      have hF := HF9.out.kept hb
      have ho := Ot.of_below (fun _ => False) hb
      have fj := (H9.out.2.1.ot ho (fun h => h) j hjL).1
      have hkc := fun k hk => (H9.out.2.2.ot ho (fun h => h) k hk).1
      have bn := HE.out.names j hj'
      have bp := HE.out.ports j hj'
      obtain ⟨ba0, ba1⟩ := HE.out.agos j hj'
      have kc := hkc ((ea E j).1 % 8) (by omega)
      have hbw := hF.below
      have p0 := (hbw.cell (p := ⟨b, off + j * 3, none⟩) hbl).trans (HE.out.name j hj')
      have p1 := (hbw.cell (p := ⟨b, off + j * 3 + 1, none⟩) hbl).trans (HE.out.port j hj')
      have p2 := (hbw.cell (p := ⟨b, off + j * 3 + 2, none⟩) hbl).trans (HE.out.ago j hj')
      have hptr2 := hF.ptr
      have hall := hF.all _ (ea_mem hj')
      have hfound := fun h => last_found (es := E) hj' h
      have hcl := cnt_le ((ea E j).1 % 8) E L
      have hkp := cnt_kp ((ea E j).1 % 8) E
      rw [hL] at hkp
      have hnext : ∀ W, Below wr.heap.size wr W → ∃ j_1 : Nat, j_1 ≤ L ∧ Value.int IntKind.i64 ((j : Int) + 1) = Value.int IntKind.i64 j_1 ∧ Below w9.heap.size w9 W := fun W hW => ⟨j + 1, by omega, by go_num, below_next hb hW⟩
      have HNX := hide hnext
      have HX := hide (And.intro hF (And.intro hall (And.intro hfound hkp)))
      clear hb hF ho hkc hbw hall hfound hkp hnext
      generalize ea E j = e at *
      generalize fin E j = fn at fj HX
      cases fn with
      | false =>
        go_wp2_with fail
        exact ⟨HNX.out _ (Below.refl _ _), by simp [intOf]; omega⟩
      | true =>
        obtain ⟨k, hk⟩ : ∃ k, k = e.1 % 8 := ⟨_, rfl⟩
        rw [← hk] at kc hcl
        by_cases hc0 : cnt k E L = 0
        · rw [hc0] at kc
          have kc' : wr.cell? ⟨q4, e.1 % 8, none⟩ = some (.int .i64 0) := by rw [← hk]; exact kc
          clear kc hk
          go_wp2_with fail
          exact ⟨HNX.out _ (Below.refl _ _), by simp [intOf]; omega⟩
        · have kc' : wr.cell? ⟨q4, e.1 % 8, none⟩ = some (.int .i64 (cnt k E L : Nat)) := by rw [← hk]; exact kc
          have hk8 : k < 8 := by omega
          have HK := hide hk
          clear kc hk
          have hc0i : ¬ ((cnt k E L : Nat) : Int) = 0 := by omega
          have HC := hide hc0
          clear hc0
          go_upto_region 63 with (fail)
          rw [show ((e.1 : Int) % 8) = (k : Int) by have := HK.out; omega]
          have hkO : k ∈ keys O := by rw [HK.out]; exact HX.out.2.1
          have hlv : lv O E k = true := by
            have h1 : cnt k E L = (kp (st k E).1).length := by rw [HK.out]; exact HX.out.2.2.2
            have h2 : (kp (st k E).1).isEmpty = false := by
              cases h : kp (st k E).1 with
              | nil => rw [h] at h1; exact (HC.out h1).elim
              | cons _ _ => rfl
            simp [lv, hkO, h2]
          obtain ⟨bk, s, hm, hlk⟩ := (lk_live (O := O) (E := E) HX.out.1.wf (i := k)).1 hlv
          have hfd : lk e.2.1 (kp (st k E).1) = if e.2.2 < 3 then some e.2.2 else none := by
            rw [HK.out]
            exact HX.out.2.2.1 rfl
          have hlow : ∀ x ∈ kp (st k E).1, x.1 < 65536 := fun x hx => by
            obtain ⟨y, hy, h1, _⟩ := st_mem _ _ x (List.mem_filter.1 hx).1
            obtain ⟨i, hi, rfl⟩ := List.getElem_of_mem hy
            rw [← h1, ← ea_some (List.getElem?_eq_getElem hi)]
            exact HE.out.ports i hi
          have HS : Hid (∀ W, Below wr.heap.size wr W → Below wr.heap.size wr W ∧ W.cell? ⟨bc, 155, none⟩ = some (.map (some w.heap.size)) ∧ W.cell? ⟨b, off + j * 3 + 1, none⟩ = some (.int .u16 e.2.1) ∧
              (Instr.lookup 25 (.map (some w.heap.size)) (.string (nm k)) false).run Yba.prog W = .ok (.map (some bk)) W ∧
              (Instr.lookup 28 (.map (some bk)) (.agg #[.int .u64 0, .int .u64 0, .pointer none, .int .u16 e.2.1]) true).run Yba.prog W = .ok (.tuple #[((if e.2.2 < 3 then some e.2.2 else none).map (tv n)).getD (.int .i64 0), .bool (if e.2.2 < 3 then some e.2.2 else none).isSome]) W) := fun W hW => by
            have ho := Ot.of_below (fun _ => False) hW
            refine ⟨hW, ho.cellv hptr2 (fun h => h), ho.cellv p1 (fun h => h), ?_, ?_⟩
            · have := run_lookup_mine (P := Yba.prog) (w := W) (V := VO) Yba.underlying25 keys9 hk8 (fun e he => HX.out.1.low e (List.mem_filter.1 he).1) (ho.obj HX.out.1.pubs (fun h => h)) (.map none) (by kernel_rfl) false
              rw [hlk] at this
              exact this
            · have := run_lookup_mine (P := Yba.prog) (w := W) (V := tv n) Yba.underlying28 keys43 bp hlow (ho.obj (HX.out.1.map _ hm) (fun h => h)) (.int .i64 0) (by kernel_rfl) true
              rw [hfd] at this
              exact this
          obtain ⟨s0, s1, s2, s3, s4⟩ := unhide HS wr (Below.refl _ _)
          have HM := hide hm
          clear hm hlk hfd hlow hlv hkO
          go_region_held3 (fun W => Below wr.heap.size wr W ∧ W.cell? ⟨bc, 155, none⟩ = some (.map (some w.heap.size)) ∧ W.cell? ⟨b, off + j * 3 + 1, none⟩ = some (.int .u16 e.2.1) ∧
              (Instr.lookup 25 (.map (some w.heap.size)) (.string (nm k)) false).run Yba.prog W = .ok (.map (some bk)) W ∧
              (Instr.lookup 28 (.map (some bk)) (.agg #[.int .u64 0, .int .u64 0, .pointer none, .int .u16 e.2.1]) true).run Yba.prog W = .ok (.tuple #[((if e.2.2 < 3 then some e.2.2 else none).map (tv n)).getD (.int .i64 0), .bool (if e.2.2 < 3 then some e.2.2 else none).isSome]) W)
            ((refine unhide HS _ ?_; go_split_ands; first | assumption | exact Below.drew (by assumption)))
            (first
              | (go_at_call 4; refine (name_at k hk8 _).mono ?_; rintro e' w' ⟨rfl, rfl⟩)
              | (go_at_call 5; refine (addr_at _ _).mono ?_; rintro e' w' ⟨rfl, hb⟩; go_split_ands; have hb' : Below wr.heap.size wr w' := below_next (by assumption) hb; clear hb))
          all_goals
            have hB : Below wr.heap.size wr w' := by assumption
            have p2' : w'.cell? ⟨b, off + j * 3 + 2, none⟩ = some (.int .i16 e.2.2) := (hB.cell (World.block_lt_of_cell? _ _ p2)).trans p2
            have HB := hide hB
            clear hB
            by_cases h3 : e.2.2 < 3
            · simp only [if_pos h3, Option.getD_some, Option.isSome_some, tv]
              go_wp2_with fail
              exact ⟨HNX.out _ HB.out, by simp [intOf]; omega⟩
            · simp only [if_neg h3, Option.getD_none, Option.isSome_none]
              go_wp2_with fail
              exact ⟨HNX.out _ HB.out, by simp [intOf]; omega⟩
    · have hji : ¬ (j : Int) < L := by omega
      have HB := hide hb
      clear hb
      go_wp2_with fail
      refine HQ.out _ _ _ _ _ _ _ _ _ _ _ _ _ _ _ _ _ _ _ _ _ _ _ _ _ _ _ _ _ _ _ _ _ _ _ _ _ _ _ _ _ _ _ _ _ _ _ _ _ _ _ _ _ _ _ _ _ _ _ _ _ _ _ _ _ _ _ ?_
      exact HB.out

end Go.Proofs.Ybulkdjcm
