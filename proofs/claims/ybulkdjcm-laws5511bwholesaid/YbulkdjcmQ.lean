/-
  THE LAW (func 3): ONE LOOP: block 2 of her body.
-/
import Derived.Test.YbulkdjcmW
namespace Go.Proofs.Ybulkdjcm
open Go.RowKit Go.ChangeMaps Go.Sort
attribute [local go_sem] run_make

set_option maxHeartbeats 4000000 in
set_option maxRecDepth 1000000 in
theorem st2 {x0 x1 x2 x3 x4 x5 x6 x7 x8 x12 x13 x14 x15 x16 x17 x18 x19 x20 x21 x22 x23 x24 x25 x26 x27 x28 x29 x30 x31 x32 x33 x34 x35 x36 x37 x38 x39 x40 x41 x42 x43 x44 x45 x46 x47 x48 x49 x50 x51 x52 x53 x54 x55 x59 x60 x61 x62 x63 x64 x65 x66 x67 x68 x69 x70 x71 x72 x73 x74 x75 x76 x77 x78 x79 x80 x81 x82 x83 x84 x85 x86 x87 x88 x89 x90 x91 x92 x93 x94 x95 x96 x97 x98 x99 x100 x101 x102 x103 x104 x105 x106 x107 x108 x109 x110 x111 x112 x113 x114 x115 x116 x117 x118 x119 x120 x121 x122 x123 x124 x125 x126 x127 x128 x129 x130 x131 x132 x133 x134 x135 x136 x137 x138 x139 x140 x141 x142 x143 x144 x145 x146 x147 x148 x149 x150 x151 x152 x153 x154 x155 x156 x157 x158 x159 x160 x161 x162 x163 x164 x165 x166 x167 x168 x169 x170 x171 x172 x173 x174 x175 x176 x177 x178 x179 x180 x181 x182 x183 x184 x185 x186 x187 x188 x189 x190 x191 x192 x193 x194 x195 x196 x197 x198 x199 x200 x201 x202 x203 x204 x205 x206 x207 x208 x209 x210 x211 x212 x213 x214 x215 x216 x217 x218 x219 x220 x221 x222 x223 x224 x225 x226 x227 x228 x229 x230 x231 x232 x233 x234 x235 x236 x237 x238 x239 x240 x241 x242 x243 x244 x245 x246 x247 x248 x249 x250 x251 x252 x253 x254 x255 x256 x257 x258 x259 x260 x261 x262 x263 x264 x265 x266 x267 x268 x269 x270 x271 x272 x273 x274 x275 x276 x277 x278 x279 x280 x281 x282 x283 x284 x285 x286 x287 x288 x289 x290 x291 x292 x293 x294 x295 x296 x297 x298 x299 x300 x301 x302 x303 x304 x305 x306 x307 x308 x309 x310 x311 x312 x313 x314 x315 x316 x317 x318 x319 x320 x321 x322 x323 x324 x325 x326 x327 x328 x329 x330 x331 : Value} {Q : Exit → Act → World → Prop} (n : Int) (b off c1 L : Nat) (a1 : Option Addr) (E : List Ent) (w W : World) (HE : Hid (Er w a1 b off E)) (hL : E.length = L) (hlen : L ≤ 4096) (O0 : List (Nat × Nat × Nat)) (ck0 : Nat) (H0 : Hid (Pb w W n O0 ck0 [] ∧ Pres W (w.heap.size + 1) O0))
    (hQ : ∀ (u14 u15 u16 u58 u59 u60 u61 u62 u63 u64 u65 u66 u67 u68 u69 u70 u71 u72 u73 u74 u75 u76 u77 u78 u79 u80 u81 u82 u83 u84 u85 u86 u87 u88 u89 : Value) (wc : World), (∃ O ck, Pb w wc n O ck E ∧ Pres wc (w.heap.size + 1) O) → Q .normal ⟨#[x0, x1, x2, x3, x4, x5, x6, x7, x8, .int .i64 n, .map (some w.heap.size), .pointer (some ⟨w.heap.size + 1, 0, none⟩), x12, x13, u14, u15, u16, x17, x18, x19, x20, x21, x22, x23, x24, x25, x26, x27, x28, x29, x30, x31, x32, x33, x34, x35, x36, x37, x38, x39, x40, x41, x42, x43, x44, x45, x46, x47, x48, x49, x50, x51, x52, x53, x54, x55, .slice a1 L c1, .int .i64 L, u58, u59, u60, u61, u62, u63, u64, u65, u66, u67, u68, u69, u70, u71, u72, u73, u74, u75, u76, u77, u78, u79, u80, u81, u82, u83, u84, u85, u86, u87, u88, u89, x90, x91, x92, x93, x94, x95, x96, x97, x98, x99, x100, x101, x102, x103, x104, x105, x106, x107, x108, x109, x110, x111, x112, x113, x114, x115, x116, x117, x118, x119, x120, x121, x122, x123, x124, x125, x126, x127, x128, x129, x130, x131, x132, x133, x134, x135, x136, x137, x138, x139, x140, x141, x142, x143, x144, x145, x146, x147, x148, x149, x150, x151, x152, x153, x154, x155, x156, x157, x158, x159, x160, x161, x162, x163, x164, x165, x166, x167, x168, x169, x170, x171, x172, x173, x174, x175, x176, x177, x178, x179, x180, x181, x182, x183, x184, x185, x186, x187, x188, x189, x190, x191, x192, x193, x194, x195, x196, x197, x198, x199, x200, x201, x202, x203, x204, x205, x206, x207, x208, x209, x210, x211, x212, x213, x214, x215, x216, x217, x218, x219, x220, x221, x222, x223, x224, x225, x226, x227, x228, x229, x230, x231, x232, x233, x234, x235, x236, x237, x238, x239, x240, x241, x242, x243, x244, x245, x246, x247, x248, x249, x250, x251, x252, x253, x254, x255, x256, x257, x258, x259, x260, x261, x262, x263, x264, x265, x266, x267, x268, x269, x270, x271, x272, x273, x274, x275, x276, x277, x278, x279, x280, x281, x282, x283, x284, x285, x286, x287, x288, x289, x290, x291, x292, x293, x294, x295, x296, x297, x298, x299, x300, x301, x302, x303, x304, x305, x306, x307, x308, x309, x310, x311, x312, x313, x314, x315, x316, x317, x318, x319, x320, x321, x322, x323, x324, x325, x326, x327, x328, x329, x330, x331], []⟩ wc) :
    Code.wp Yba.prog ((Yba.f3.body.bind (blk 2)).getD .skip) Q ⟨#[x0, x1, x2, x3, x4, x5, x6, x7, x8, .int .i64 n, .map (some w.heap.size), .pointer (some ⟨w.heap.size + 1, 0, none⟩), x12, x13, x14, x15, x16, x17, x18, x19, x20, x21, x22, x23, x24, x25, x26, x27, x28, x29, x30, x31, x32, x33, x34, x35, x36, x37, x38, x39, x40, x41, x42, x43, x44, x45, x46, x47, x48, x49, x50, x51, x52, x53, x54, x55, .slice a1 L c1, .int .i64 L, .int .i64 0, x59, x60, x61, x62, x63, x64, x65, x66, x67, x68, x69, x70, x71, x72, x73, x74, x75, x76, x77, x78, x79, x80, x81, x82, x83, x84, x85, x86, x87, x88, x89, x90, x91, x92, x93, x94, x95, x96, x97, x98, x99, x100, x101, x102, x103, x104, x105, x106, x107, x108, x109, x110, x111, x112, x113, x114, x115, x116, x117, x118, x119, x120, x121, x122, x123, x124, x125, x126, x127, x128, x129, x130, x131, x132, x133, x134, x135, x136, x137, x138, x139, x140, x141, x142, x143, x144, x145, x146, x147, x148, x149, x150, x151, x152, x153, x154, x155, x156, x157, x158, x159, x160, x161, x162, x163, x164, x165, x166, x167, x168, x169, x170, x171, x172, x173, x174, x175, x176, x177, x178, x179, x180, x181, x182, x183, x184, x185, x186, x187, x188, x189, x190, x191, x192, x193, x194, x195, x196, x197, x198, x199, x200, x201, x202, x203, x204, x205, x206, x207, x208, x209, x210, x211, x212, x213, x214, x215, x216, x217, x218, x219, x220, x221, x222, x223, x224, x225, x226, x227, x228, x229, x230, x231, x232, x233, x234, x235, x236, x237, x238, x239, x240, x241, x242, x243, x244, x245, x246, x247, x248, x249, x250, x251, x252, x253, x254, x255, x256, x257, x258, x259, x260, x261, x262, x263, x264, x265, x266, x267, x268, x269, x270, x271, x272, x273, x274, x275, x276, x277, x278, x279, x280, x281, x282, x283, x284, x285, x286, x287, x288, x289, x290, x291, x292, x293, x294, x295, x296, x297, x298, x299, x300, x301, x302, x303, x304, x305, x306, x307, x308, x309, x310, x311, x312, x313, x314, x315, x316, x317, x318, x319, x320, x321, x322, x323, x324, x325, x326, x327, x328, x329, x330, x331], []⟩ W := by
  conv => arg 2; whnf
  have HQ := hide hQ
  clear hQ
  have hLi : (L : Int) ≤ 4096 := by omega
  go_wp2_with fail
  go_loopw [58] (fun v wr => ∃ (t : Nat) (O : List (Nat × Nat × Nat)) (ck : Nat), t ≤ L ∧ v = .int .i64 t ∧ Pb w wr n O ck (E.take t) ∧ Pres wr (w.heap.size + 1) O) (fun v _ => L - (intOf v).toNat)
  case atStart => exact ⟨0, O0, ck0, by omega, rfl, H0.out.1, H0.out.2⟩
  case round =>
    clear H0
    obtain ⟨t, O, ck, ht, rfl, hp, hr⟩ := hrel
    by_cases htL : t < L
    · have hti : (t : Int) < L := by omega
      have ht' : t < E.length := by omega
      obtain rfl := HE.out.addr (by omega)
      have hbl := HE.out.lt (by omega)
      have q0 := (hp.below.cell (p := ⟨b, off + t * 3, none⟩) hbl).trans (HE.out.name t ht')
      have q1 := (hp.below.cell (p := ⟨b, off + t * 3 + 1, none⟩) hbl).trans (HE.out.port t ht')
      have q2 := (hp.below.cell (p := ⟨b, off + t * 3 + 2, none⟩) hbl).trans (HE.out.ago t ht')
      have b0 := HE.out.names t ht'
      have b1 := HE.out.ports t ht'
      have b2 := HE.out.agos t ht'
      have htk : E.take (t + 1) = E.take t ++ [ea E t] := by
        rw [List.take_add_one, ea_some (List.getElem?_eq_getElem ht'), List.getElem?_eq_getElem ht']
        rfl
      generalize ea E t = e at q0 q1 q2 b0 b1 b2 htk
      have HR := hide (And.intro hp (And.intro hr htk))
      clear hp hr htk
      go_upto_region 16 with (fail)
      obtain ⟨k, hk⟩ : ∃ k, k = e.1 % 8 := ⟨_, rfl⟩
      rw [show ((e.1 : Int) % 8) = (k : Int) by omega]
      have hk8 : k < 8 := by omega
      have hki : (k : Int) < 8 := by omega
      have oa : Ot (fun _ => False) wr (wr.alloc (.cells #[.int .u8 e.1, .int .u16 e.2.1, .int .i16 e.2.2] 33)) := (Ot.refl _ _).alloc _
      have hp1 := HR.out.1.ot oa (fun _ h => h.elim)
      have hr1 := HR.out.2.1.ot oa (fun h => h)
      have d1 : (wr.alloc (.cells #[.int .u8 e.1, .int .u16 e.2.1, .int .i16 e.2.2] 33)).cell? ⟨wr.heap.size, 1, none⟩ = some (.int .u16 e.2.1) := by simp
      have d2 : (wr.alloc (.cells #[.int .u8 e.1, .int .u16 e.2.1, .int .i16 e.2.2] 33)).cell? ⟨wr.heap.size, 2, none⟩ = some (.int .i16 e.2.2) := by simp
      have hroom := HR.out.1.room
      generalize wr.alloc (.cells #[.int .u8 e.1, .int .u16 e.2.1, .int .i16 e.2.2] 33) = w1 at hp1 hr1 d1 d2 oa
      have hb14 : w.heap.size + 1 ≠ wr.heap.size := by omega
      generalize wr.heap.size = b14 at d1 d2 hroom hb14
      have HK := hide hk
      have HT := hide HR.out.2.2
      clear hk q0 q1 q2 HR b0 oa
      cases hlk : lk k O with
      | some bk =>
        obtain ⟨s, hm⟩ := mem_of_lk hlk
        have hlook := run_lookup_mine (P := Yba.prog) Yba.underlying25 keys9 hk8 hp1.low hp1.pubs (.map none) (by kernel_rfl) false
        rw [hlk] at hlook
        simp only [Bool.false_eq_true, if_false, Option.map_some, Option.getD_some, VO, sk] at hlook
        have heq := fun W => run_eql_map_nil (P := Yba.prog) W 28 43 23 (some bk) Yba.underlying28
        simp only [Option.isNone_some] at heq
        have HP := hide (And.intro hp1 (And.intro hr1 hm))
        clear hp1 hr1 hm hlk
        go_upto_region 20 with (first
          | (go_at_call 4; refine (name_at k hk8 _).mono ?_; rintro e w' ⟨rfl, rfl⟩)
          | fail)
        have hlow : ∀ x ∈ (st k (E.take t)).1, x.1 < 65536 := fun x hx => by
          obtain ⟨y, hy, h1, _⟩ := st_mem _ _ x hx
          obtain ⟨j, hj, rfl⟩ := List.getElem_of_mem (List.mem_of_mem_take hy)
          rw [← h1, ← ea_some (List.getElem?_eq_getElem hj)]
          exact HE.out.ports j hj
        have hput := HP.out.1.put HP.out.2.2 HK.out.symm
        have hmap := HP.out.1.map _ HP.out.2.2
        simp only at hmap
        generalize (st k (E.take t)).1 = lst at hlow hmap hput
        generalize (st k (E.take t)).2 = cst at hmap hput
        have HS : Hid (∀ W, Two bk (mobj pk (tv n) lst cst) (mobj pk (tv n) (upd e.2.1 e.2.2 cst lst) (updc e.2.1 cst lst)) w1 W → Two bk (mobj pk (tv n) lst cst) (mobj pk (tv n) (upd e.2.1 e.2.2 cst lst) (updc e.2.1 cst lst)) w1 W ∧ W.cell? ⟨b14, 1, none⟩ = some (.int .u16 e.2.1) ∧ W.cell? ⟨b14, 2, none⟩ = some (.int .i16 e.2.2) ∧
            (Instr.mapUpdate 28 (.map (some bk)) (.agg #[.int .u64 0, .int .u64 0, .pointer none, .int .u16 e.2.1]) (.int .i64 (IntKind.i64.wrap (n - IntKind.i64.wrap (IntKind.i64.wrap e.2.2 * 60000000000))))).run Yba.prog W = .ok () (setBlock W bk (mobj pk (tv n) (upd e.2.1 e.2.2 cst lst) (updc e.2.1 cst lst)))) := fun W h =>
          ⟨h, h.1.cellv d1 (ne_of_cell d1 hmap), h.1.cellv d2 (ne_of_cell d2 hmap), by rw [wr3 n e.2.2]; exact h.run b1 hlow⟩
        obtain ⟨s0, s1, s2, s3⟩ := unhide HS w1 ⟨Ot.refl _ _, .inl hmap⟩
        have HQ := hide hput
        clear hput hmap hlow
        obtain ⟨b20, b21⟩ := b2
        go_region_held3 (fun W => Two bk (mobj pk (tv n) lst cst) (mobj pk (tv n) (upd e.2.1 e.2.2 cst lst) (updc e.2.1 cst lst)) w1 W ∧ W.cell? ⟨b14, 1, none⟩ = some (.int .u16 e.2.1) ∧ W.cell? ⟨b14, 2, none⟩ = some (.int .i16 e.2.2) ∧
            (Instr.mapUpdate 28 (.map (some bk)) (.agg #[.int .u64 0, .int .u64 0, .pointer none, .int .u16 e.2.1]) (.int .i64 (IntKind.i64.wrap (n - IntKind.i64.wrap (IntKind.i64.wrap e.2.2 * 60000000000))))).run Yba.prog W = .ok () (setBlock W bk (mobj pk (tv n) (upd e.2.1 e.2.2 cst lst) (updc e.2.1 cst lst))))
          ((refine unhide HS _ ?_; go_split_ands; first | assumption | exact Two.drew (by assumption) | exact Two.set (by assumption)))
          (first
            | (go_at_call 5; refine (addr_at _ _).mono ?_; rintro e' w' ⟨rfl, hb⟩; go_split_ands; have hb' := Two.call (by assumption) hb; clear hb))
        have hT : Two bk (mobj pk (tv n) lst cst) (mobj pk (tv n) (upd e.2.1 e.2.2 cst lst) (updc e.2.1 cst lst)) w1 w' := by assumption
        have hbk := lt_of_block (HP.out.1.map _ HP.out.2.2)
        have hnew := HP.out.1.new _ HP.out.2.2
        simp only at hbk hnew
        have hp6 := HQ.out.ot (hT.1.both hbk (mobj pk (tv n) (upd e.2.1 e.2.2 cst lst) (updc e.2.1 cst lst))) (fun _ h => h.elim)
        have hr6 := HP.out.2.1.ot (hT.1.setBlock bk (mobj pk (tv n) (upd e.2.1 e.2.2 cst lst) (updc e.2.1 cst lst)) (fun _ => rfl)) (by omega)
        clear hT
        generalize setBlock w' bk (mobj pk (tv n) (upd e.2.1 e.2.2 cst lst) (updc e.2.1 cst lst)) = w6 at *
        rw [← HT.out] at hp6
        have hkO : k ∈ keys O := List.mem_map_of_mem HP.out.2.2
        have hc6 := (hr6 k hk8).1
        have hf6 := (hr6 k hk8).2
        have HR6 := hide (And.intro hp6 hr6)
        clear hp6 hr6
        go_wp2_with fail
        refine ⟨⟨t + 1, O, ck, by omega, by go_num, HR6.out.1.ot ((Ot.refl (fun k => k = w.heap.size + 1) w6).setCell (fun _ => rfl) _) (fun k h => h), HR6.out.2.set hk8 ?_⟩, by simp [intOf]; omega⟩
        intro j
        constructor
        · exact fun h => .inr h
        · rintro (h | h)
          · rw [h]; exact hkO
          · exact h
      | none =>
        have hkO : k ∉ keys O := fun h => by
          obtain ⟨x, hx, he⟩ := List.mem_map.1 h
          have := lk_mem hp1.wf.keys hx
          rw [he, hlk] at this
          cases this
        have hlook := run_lookup_mine (P := Yba.prog) Yba.underlying25 keys9 hk8 hp1.low hp1.pubs (.map none) (by kernel_rfl) false
        rw [hlk] at hlook
        simp only [Bool.false_eq_true, if_false, Option.map_none, Option.getD_none, sk] at hlook
        have heq := fun W => run_eql_map_nil (P := Yba.prog) W 28 43 23 none Yba.underlying28
        simp only [Option.isNone_none] at heq
        obtain ⟨e1, e2, hp2⟩ := hp1.make hk8 hkO
        have oa : Ot (fun k => k = w.heap.size) w1 (setBlock (w1.alloc (.map #[] 0)) w.heap.size (mobj sk VO (O ++ [(k, w1.heap.size, ck)]) (ck + 1))) := ((Ot.refl _ _).alloc _).setBlock _ _ (fun _ => rfl)
        have hr2 := hr1.ot oa (by omega)
        have hup := run_update_mine (P := Yba.prog) (w := w1.alloc (.map #[] 0)) Yba.underlying25 keys9 hk8 hp1.low (by rw [Below.heap_alloc _ _ _ (lt_of_block hp1.pubs)]; exact hp1.pubs) w1.heap.size
        rw [e1, e2] at hup
        have hb14n : b14 ≠ w.heap.size := ne_of_cell d1 hp1.pubs
        have f1 := oa.cellv d1 hb14n
        have f2 := oa.cellv d2 hb14n
        generalize hW : setBlock (w1.alloc (.map #[] 0)) w.heap.size (mobj sk VO (O ++ [(k, w1.heap.size, ck)]) (ck + 1)) = w2 at hup hp2 hr2 f1 f2
        have hm : (k, w1.heap.size, ck) ∈ O ++ [(k, w1.heap.size, ck)] := by simp
        obtain ⟨bk, hbk0⟩ : ∃ bk, bk = w1.heap.size := ⟨_, rfl⟩
        have HP := hide (And.intro hp2 (And.intro hr2 hm))
        have HU := hide hup
        clear hp1 hr1 hm hlk hp2 hr2 hup hW oa e1 e2 d1 d2
        go_upto_region 20 with (first
          | (go_at_call 4; refine (name_at k hk8 _).mono ?_; rintro e w' ⟨rfl, rfl⟩)
          | (at_mapUpdate; refine wpList_update_run _ rfl _ _ _ _ rfl _ HU.out ?_)
          | fail)
        clear HU
        go_frame
        rw [← hbk0] at *
        have hlow : ∀ x ∈ (st k (E.take t)).1, x.1 < 65536 := fun x hx => by
          obtain ⟨y, hy, h1, _⟩ := st_mem _ _ x hx
          obtain ⟨j, hj, rfl⟩ := List.getElem_of_mem (List.mem_of_mem_take hy)
          rw [← h1, ← ea_some (List.getElem?_eq_getElem hj)]
          exact HE.out.ports j hj
        have hput := HP.out.1.put HP.out.2.2 HK.out.symm
        have hmap := HP.out.1.map _ HP.out.2.2
        simp only at hmap
        generalize (st k (E.take t)).1 = lst at hlow hmap hput
        generalize (st k (E.take t)).2 = cst at hmap hput
        have HS : Hid (∀ W, Two bk (mobj pk (tv n) lst cst) (mobj pk (tv n) (upd e.2.1 e.2.2 cst lst) (updc e.2.1 cst lst)) w2 W → Two bk (mobj pk (tv n) lst cst) (mobj pk (tv n) (upd e.2.1 e.2.2 cst lst) (updc e.2.1 cst lst)) w2 W ∧ W.cell? ⟨b14, 1, none⟩ = some (.int .u16 e.2.1) ∧ W.cell? ⟨b14, 2, none⟩ = some (.int .i16 e.2.2) ∧
            (Instr.mapUpdate 28 (.map (some bk)) (.agg #[.int .u64 0, .int .u64 0, .pointer none, .int .u16 e.2.1]) (.int .i64 (IntKind.i64.wrap (n - IntKind.i64.wrap (IntKind.i64.wrap e.2.2 * 60000000000))))).run Yba.prog W = .ok () (setBlock W bk (mobj pk (tv n) (upd e.2.1 e.2.2 cst lst) (updc e.2.1 cst lst)))) := fun W h =>
          ⟨h, h.1.cellv f1 (ne_of_cell f1 hmap), h.1.cellv f2 (ne_of_cell f2 hmap), by rw [wr3 n e.2.2]; exact h.run b1 hlow⟩
        obtain ⟨s0, s1, s2, s3⟩ := unhide HS w2 ⟨Ot.refl _ _, .inl hmap⟩
        have HQ := hide hput
        clear hput hmap hlow
        obtain ⟨b20, b21⟩ := b2
        go_region_held3 (fun W => Two bk (mobj pk (tv n) lst cst) (mobj pk (tv n) (upd e.2.1 e.2.2 cst lst) (updc e.2.1 cst lst)) w2 W ∧ W.cell? ⟨b14, 1, none⟩ = some (.int .u16 e.2.1) ∧ W.cell? ⟨b14, 2, none⟩ = some (.int .i16 e.2.2) ∧
            (Instr.mapUpdate 28 (.map (some bk)) (.agg #[.int .u64 0, .int .u64 0, .pointer none, .int .u16 e.2.1]) (.int .i64 (IntKind.i64.wrap (n - IntKind.i64.wrap (IntKind.i64.wrap e.2.2 * 60000000000))))).run Yba.prog W = .ok () (setBlock W bk (mobj pk (tv n) (upd e.2.1 e.2.2 cst lst) (updc e.2.1 cst lst))))
          ((refine unhide HS _ ?_; go_split_ands; first | assumption | exact Two.drew (by assumption) | exact Two.set (by assumption)))
          (first
            | (go_at_call 5; refine (addr_at _ _).mono ?_; rintro e' w' ⟨rfl, hb⟩; go_split_ands; have hb' := Two.call (by assumption) hb; clear hb))
        have hT : Two bk (mobj pk (tv n) lst cst) (mobj pk (tv n) (upd e.2.1 e.2.2 cst lst) (updc e.2.1 cst lst)) w2 w' := by assumption
        have hbk := lt_of_block (HP.out.1.map _ HP.out.2.2)
        have hnew := HP.out.1.new _ HP.out.2.2
        simp only at hbk hnew
        have hp6 := HQ.out.ot (hT.1.both hbk (mobj pk (tv n) (upd e.2.1 e.2.2 cst lst) (updc e.2.1 cst lst))) (fun _ h => h.elim)
        have hr6 := HP.out.2.1.ot (hT.1.setBlock bk (mobj pk (tv n) (upd e.2.1 e.2.2 cst lst) (updc e.2.1 cst lst)) (fun _ => rfl)) (by omega)
        clear hT
        generalize setBlock w' bk (mobj pk (tv n) (upd e.2.1 e.2.2 cst lst) (updc e.2.1 cst lst)) = w6 at *
        rw [← HT.out] at hp6
        have hc6 := (hr6 k hk8).1
        have hf6 := (hr6 k hk8).2
        have HR6 := hide (And.intro hp6 hr6)
        clear hp6 hr6
        go_wp2_with fail
        refine ⟨⟨t + 1, _, _, by omega, by go_num, HR6.out.1.ot ((Ot.refl (fun k => k = w.heap.size + 1) w6).setCell (fun _ => rfl) _) (fun k h => h), HR6.out.2.set hk8 ?_⟩, by simp [intOf]; omega⟩
        intro j
        unfold keys
        rw [List.map_append]
        simp [or_comm]
    · have hti : ¬ (t : Int) < L := by omega
      have HR := hide (And.intro hp hr)
      clear hp hr
      go_wp2_with fail
      refine HQ.out _ _ _ _ _ _ _ _ _ _ _ _ _ _ _ _ _ _ _ _ _ _ _ _ _ _ _ _ _ _ _ _ _ _ _ _ ?_
      have hE : E.take t = E := List.take_of_length_le (by omega)
      rw [hE] at HR
      exact ⟨O, ck, HR.out.1, HR.out.2⟩

end Go.Proofs.Ybulkdjcm
