/-
  THE LAW (func 3): ONE LOOP: block 6 of her body.
-/
import Derived.Test.YbulkdjcmW
namespace Go.Proofs.Ybulkdjcm
open Go.RowKit Go.ChangeMaps Go.Sort
attribute [local go_sem] run_make

set_option maxHeartbeats 4000000 in
set_option maxRecDepth 1000000 in
theorem st4 {x0 x2 x3 x4 x5 x6 x7 x8 x9 x10 x11 x12 x13 x14 x15 x16 x17 x18 x19 x23 x24 x25 x26 x27 x28 x29 x30 x31 x32 x33 x34 x35 x36 x37 x38 x39 x40 x41 x42 x43 x44 x45 x46 x47 x48 x49 x50 x51 x52 x53 x54 x55 x56 x57 x58 x59 x60 x61 x62 x63 x64 x65 x66 x67 x68 x69 x70 x71 x72 x73 x74 x75 x76 x77 x78 x79 x80 x81 x82 x83 x84 x85 x86 x87 x88 x89 x90 x91 x92 x93 x94 x95 x96 x97 x98 x99 x100 x101 x102 x103 x104 x105 x106 x107 x108 x109 x110 x111 x112 x113 x114 x115 x116 x117 x118 x119 x120 x121 x122 x123 x124 x125 x126 x127 x128 x129 x130 x131 x132 x133 x134 x135 x136 x137 x138 x139 x140 x141 x142 x143 x144 x145 x146 x147 x148 x149 x150 x151 x152 x153 x154 x155 x156 x157 x158 x159 x160 x161 x162 x163 x164 x165 x166 x167 x168 x169 x170 x171 x172 x173 x174 x175 x176 x177 x178 x179 x180 x181 x182 x183 x184 x185 x186 x187 x188 x189 x190 x191 x192 x193 x194 x195 x196 x197 x198 x199 x200 x201 x202 x203 x204 x205 x206 x207 x208 x209 x210 x211 x212 x213 x214 x215 x216 x217 x218 x219 x220 x221 x222 x223 x224 x225 x226 x227 x228 x229 x230 x231 x232 x233 x234 x235 x236 x237 x238 x239 x240 x241 x242 x243 x244 x245 x246 x247 x248 x249 x250 x251 x252 x253 x254 x255 x256 x257 x258 x259 x260 x261 x262 x263 x264 x265 x266 x267 x268 x269 x270 x271 x272 x273 x274 x275 x276 x277 x278 x279 x280 x281 x282 x283 x284 x285 x286 x287 x288 x289 x290 x291 x292 x293 x294 x295 x296 x297 x298 x299 x300 x301 x302 x303 x304 x305 x306 x307 x308 x309 x310 x311 x312 x313 x314 x315 x316 x317 x318 x319 x320 x321 x322 x323 x324 x325 x326 x327 x328 x329 x330 x331 : Value} {Q : Exit → Act → World → Prop} (n : Int) (nmask b off c1 L bc : Nat) (a1 : Option Addr) (E : List Ent) (w w4 w5 : World) (O : List (Nat × Nat × Nat)) (ck : Nat) (v4 : Value) (HE : Hid (Er w a1 b off E)) (hL : E.length = L) (hlen : L ≤ 4096) (HF : Hid (Fs w w4 n nmask O ck E bc v4)) (H5 : Hid (Below w4.heap.size w4 w5 ∧ FLs w5 (w4.heap.size + 1) L (fun _ => false) ∧ KPs w5 w4.heap.size (fun k => cnt k E 0)))
    (hQ : ∀ (u22 u23 u120 u121 u122 u123 u124 u125 u126 u127 u128 u129 u130 u131 u132 u133 u134 u135 u136 u137 u138 u139 u140 u141 u142 u143 u144 u145 u146 u147 u148 u149 u150 u151 u152 u153 u154 u155 u156 u157 u158 u159 u160 u161 u162 u163 u164 u165 u166 u167 u168 u169 u170 u171 u172 u173 u174 u175 u176 u177 u178 u179 u180 u181 u182 u183 u184 u185 u186 u187 u188 : Value) (wc : World), (Below w4.heap.size w4 wc ∧ FLs wc (w4.heap.size + 1) L (fun i => fin E i) ∧ KPs wc w4.heap.size (fun k => cnt k E L)) → Q .normal ⟨#[x0, .slice a1 L c1, x2, x3, x4, x5, x6, x7, x8, x9, x10, x11, x12, x13, x14, x15, x16, x17, x18, x19, .pointer (some ⟨w4.heap.size, 0, none⟩), .slice (some ⟨w4.heap.size + 1, 0, none⟩) L L, u22, u23, x24, x25, x26, x27, x28, x29, x30, x31, x32, x33, x34, x35, x36, x37, x38, x39, x40, x41, x42, x43, x44, x45, x46, x47, x48, x49, x50, x51, x52, x53, x54, x55, x56, x57, x58, x59, x60, x61, x62, x63, x64, x65, x66, x67, x68, x69, x70, x71, x72, x73, x74, x75, x76, x77, x78, x79, x80, x81, x82, x83, x84, x85, x86, x87, x88, x89, x90, x91, x92, x93, x94, x95, x96, x97, x98, x99, x100, x101, x102, x103, x104, x105, x106, x107, x108, x109, x110, x111, x112, x113, x114, x115, x116, x117, x118, x119, u120, u121, u122, u123, u124, u125, u126, u127, u128, u129, u130, u131, u132, u133, u134, u135, u136, u137, u138, u139, u140, u141, u142, u143, u144, u145, u146, u147, u148, u149, u150, u151, u152, u153, u154, u155, u156, u157, u158, u159, u160, u161, u162, u163, u164, u165, u166, u167, u168, u169, u170, u171, u172, u173, u174, u175, u176, u177, u178, u179, u180, u181, u182, u183, u184, u185, u186, u187, u188, x189, x190, x191, x192, x193, x194, x195, x196, x197, x198, x199, x200, x201, x202, x203, x204, x205, x206, x207, x208, x209, x210, x211, x212, x213, x214, x215, x216, x217, x218, x219, x220, x221, x222, x223, x224, x225, x226, x227, x228, x229, x230, x231, x232, x233, x234, x235, x236, x237, x238, x239, x240, x241, x242, x243, x244, x245, x246, x247, x248, x249, x250, x251, x252, x253, x254, x255, x256, x257, x258, x259, x260, x261, x262, x263, x264, x265, x266, x267, x268, x269, x270, x271, x272, x273, x274, x275, x276, x277, x278, x279, x280, x281, x282, x283, x284, x285, x286, x287, x288, x289, x290, x291, x292, x293, x294, x295, x296, x297, x298, x299, x300, x301, x302, x303, x304, x305, x306, x307, x308, x309, x310, x311, x312, x313, x314, x315, x316, x317, x318, x319, x320, x321, x322, x323, x324, x325, x326, x327, x328, x329, x330, x331], []⟩ wc) :
    Code.wp Yba.prog ((Yba.f3.body.bind (blk 6)).getD .skip) Q ⟨#[x0, .slice a1 L c1, x2, x3, x4, x5, x6, x7, x8, x9, x10, x11, x12, x13, x14, x15, x16, x17, x18, x19, .pointer (some ⟨w4.heap.size, 0, none⟩), .slice (some ⟨w4.heap.size + 1, 0, none⟩) L L, .int .i64 0, x23, x24, x25, x26, x27, x28, x29, x30, x31, x32, x33, x34, x35, x36, x37, x38, x39, x40, x41, x42, x43, x44, x45, x46, x47, x48, x49, x50, x51, x52, x53, x54, x55, x56, x57, x58, x59, x60, x61, x62, x63, x64, x65, x66, x67, x68, x69, x70, x71, x72, x73, x74, x75, x76, x77, x78, x79, x80, x81, x82, x83, x84, x85, x86, x87, x88, x89, x90, x91, x92, x93, x94, x95, x96, x97, x98, x99, x100, x101, x102, x103, x104, x105, x106, x107, x108, x109, x110, x111, x112, x113, x114, x115, x116, x117, x118, x119, x120, x121, x122, x123, x124, x125, x126, x127, x128, x129, x130, x131, x132, x133, x134, x135, x136, x137, x138, x139, x140, x141, x142, x143, x144, x145, x146, x147, x148, x149, x150, x151, x152, x153, x154, x155, x156, x157, x158, x159, x160, x161, x162, x163, x164, x165, x166, x167, x168, x169, x170, x171, x172, x173, x174, x175, x176, x177, x178, x179, x180, x181, x182, x183, x184, x185, x186, x187, x188, x189, x190, x191, x192, x193, x194, x195, x196, x197, x198, x199, x200, x201, x202, x203, x204, x205, x206, x207, x208, x209, x210, x211, x212, x213, x214, x215, x216, x217, x218, x219, x220, x221, x222, x223, x224, x225, x226, x227, x228, x229, x230, x231, x232, x233, x234, x235, x236, x237, x238, x239, x240, x241, x242, x243, x244, x245, x246, x247, x248, x249, x250, x251, x252, x253, x254, x255, x256, x257, x258, x259, x260, x261, x262, x263, x264, x265, x266, x267, x268, x269, x270, x271, x272, x273, x274, x275, x276, x277, x278, x279, x280, x281, x282, x283, x284, x285, x286, x287, x288, x289, x290, x291, x292, x293, x294, x295, x296, x297, x298, x299, x300, x301, x302, x303, x304, x305, x306, x307, x308, x309, x310, x311, x312, x313, x314, x315, x316, x317, x318, x319, x320, x321, x322, x323, x324, x325, x326, x327, x328, x329, x330, x331], []⟩ w5 := by
  conv => arg 2; whnf
  have HQ := hide hQ
  clear hQ
  have hLi : (L : Int) ≤ 4096 := by omega
  go_wp2_with fail
  go_loopw [22] (fun v wr => ∃ j : Nat, j ≤ L ∧ v = .int .i64 j ∧ Below w4.heap.size w4 wr ∧ FLs wr (w4.heap.size + 1) L (fun i => decide (i < j) && fin E i) ∧ KPs wr w4.heap.size (fun k => cnt k E j)) (fun v _ => L - (intOf v).toNat)
  case atStart => exact ⟨0, by omega, rfl, H5.out.1, by simpa using H5.out.2.1, H5.out.2.2⟩
  case round =>
    clear H5
    obtain ⟨j, hj, rfl, hb, hf, hk⟩ := hrel
    by_cases hjL : j < L
    · have hji : (j : Int) < L := by omega
      have hj' : j < E.length := by omega
      obtain rfl := HE.out.addr (by omega)
      have hbl := HE.out.lt (by omega)
      have fc := (hf j hjL).1
      have ff := (hf j hjL).2
      have HR := hide (And.intro hb (And.intro hf hk))
      clear hb hf hk
      have s1 : Ot (fun k => k = w4.heap.size + 1) wr (wr.setCell ⟨w4.heap.size + 1, j, none⟩ (.bool true)) := (Ot.refl (fun k => k = w4.heap.size + 1) _).setCell (fun _ => rfl) _
      have hb6 : Below w4.heap.size w4 (wr.setCell ⟨w4.heap.size + 1, j, none⟩ (.bool true)) := HR.out.1.trans (s1.below HR.out.1.size (fun k hk => by omega))
      have hk6 := HR.out.2.2.ot s1 (by omega)
      have hft := fun h : fin E j = true => fin_marks HR.out.2.1 hjL h
      have hff : fin E j = false → FLs ((wr.setCell ⟨w4.heap.size + 1, j, none⟩ (.bool true)).setCell ⟨w4.heap.size + 1, j, none⟩ (.bool false)) (w4.heap.size + 1) L (fun i => decide (i < j + 1) && fin E i) := fun h => by
        have h1 : FLs (wr.setCell ⟨w4.heap.size + 1, j, none⟩ (.bool true)) (w4.heap.size + 1) L (fun i => if i = j then true else decide (i < j) && fin E i) := HR.out.2.1.set hjL (fun x _ => rfl)
        refine h1.set hjL (fun x _ => ?_)
        by_cases hx : x = j
        · subst hx
          simp [h]
        · have : (x < j + 1) ↔ (x < j) := by omega
          simp only [this, if_neg hx]
      have s2 : ∀ v, Ot (fun k => k = w4.heap.size + 1) (wr.setCell ⟨w4.heap.size + 1, j, none⟩ (.bool true)) ((wr.setCell ⟨w4.heap.size + 1, j, none⟩ (.bool true)).setCell ⟨w4.heap.size + 1, j, none⟩ v) := fun v => (Ot.refl (fun k => k = w4.heap.size + 1) _).setCell (fun _ => rfl) _
      have fc6 : (wr.setCell ⟨w4.heap.size + 1, j, none⟩ (.bool true)).cell? ⟨w4.heap.size + 1, j, none⟩ = some (.bool true) := World.cell?_setCell_same _ _ _ fc
      have ff6 : (wr.setCell ⟨w4.heap.size + 1, j, none⟩ (.bool true)).frozen? ⟨w4.heap.size + 1, j, none⟩ = false := by rw [World.frozen?_setCell]; exact ff
      go_upto_block 8 with (fail)
      generalize wr.setCell ⟨w4.heap.size + 1, j, none⟩ (.bool true) = w6 at s1 hb6 hk6 hft hff s2 fc6 ff6
      have hbw : Below w.heap.size w w6 := HF.out.below.trans (hb6.mono HF.out.below.size)
      have H6 := hide (And.intro hb6 (And.intro hk6 (And.intro hft (And.intro hff s2))))
      have HW := hide hbw
      clear s1 hb6 hk6 hft hff s2 hbw fc ff HR
      go_cut [23] from 131 to 165 (fun _ wx => Below w4.heap.size w4 wx ∧ FLs wx (w4.heap.size + 1) L (fun i => decide (i < j + 1) && fin E i) ∧ KPs wx w4.heap.size (fun k => cnt k E j))
      case first =>
        go_wp2_with fail
        go_loopw [23] (fun v wx => ∃ l : Nat, j < l ∧ l ≤ L ∧ v = .int .i64 l ∧ (∃ d, wx = w6.drewN d) ∧ ∀ x, j < x → x < l → sm (ea E x) (ea E j) = false) (fun v _ => L - (intOf v).toNat)
        case atStart => exact ⟨j + 1, by omega, by omega, by go_num, ⟨0, rfl⟩, fun x h1 h2 => by omega⟩
        case round =>
          obtain ⟨l, hl1, hl2, rfl, ⟨d, hwd⟩, hno⟩ := hrel
          by_cases hlL : l < L
          · have hli : (l : Int) < L := by omega
            have q0 : wr.cell? ⟨b, off + l * 3, none⟩ = some (.int .u8 (ea E l).1) := by rw [hwd]; exact (HW.out.cell (p := ⟨b, off + l * 3, none⟩) hbl).trans (HE.out.name l (by omega))
            have q1 : wr.cell? ⟨b, off + l * 3 + 1, none⟩ = some (.int .u16 (ea E l).2.1) := by rw [hwd]; exact (HW.out.cell (p := ⟨b, off + l * 3 + 1, none⟩) hbl).trans (HE.out.port l (by omega))
            have p0 : wr.cell? ⟨b, off + j * 3, none⟩ = some (.int .u8 (ea E j).1) := by rw [hwd]; exact (HW.out.cell (p := ⟨b, off + j * 3, none⟩) hbl).trans (HE.out.name j hj')
            have p1 : wr.cell? ⟨b, off + j * 3 + 1, none⟩ = some (.int .u16 (ea E j).2.1) := by rw [hwd]; exact (HW.out.cell (p := ⟨b, off + j * 3 + 1, none⟩) hbl).trans (HE.out.port j hj')
            have fc7 : wr.cell? ⟨w4.heap.size + 1, j, none⟩ = some (.bool true) := by rw [hwd]; exact fc6
            have ff7 : wr.frozen? ⟨w4.heap.size + 1, j, none⟩ = false := by rw [hwd]; exact ff6
            have bn1 := HE.out.names l (by omega)
            have bn2 := HE.out.names j hj'
            have HN := hide (And.intro hno hwd)
            clear hno hwd fc6 ff6
            obtain ⟨el, hel⟩ : ∃ el, el = ea E l := ⟨_, rfl⟩
            obtain ⟨ej, hej⟩ : ∃ ej, ej = ea E j := ⟨_, rfl⟩
            rw [← hel] at q0 q1 bn1
            rw [← hej] at p0 p1 bn2
            have HEL := hide (And.intro hel hej)
            clear hel hej
            have hnext : ∀ q, sm el ej = false → ∃ l_1 : Nat, j < l_1 ∧ l_1 ≤ L ∧ Value.int IntKind.i64 ((l : Int) + 1) = Value.int IntKind.i64 l_1 ∧ (∃ d, wr.drewN q = w6.drewN d) ∧ ∀ x, j < x → x < l_1 → sm (ea E x) (ea E j) = false := fun q hs => by
              refine ⟨l + 1, by omega, by omega, by go_num, ⟨d + q, by rw [HN.out.2, drewN_drewN]⟩, fun x h1 h2 => ?_⟩
              by_cases hx : x = l
              · rw [hx, ← HEL.out.1, ← HEL.out.2]
                exact hs
              · exact HN.out.1 x h1 (by omega)
            have HX := hide hnext
            clear hnext
            go_upto_region 40 with (fail)
            by_cases h8 : el.1 % 8 = ej.1 % 8
            · have hd : ((el.1 : Int) % 8 == (ej.1 : Int) % 8) = true := by simp; omega
              by_cases hp : el.2.1 = ej.2.1
              · have hd2 : ((el.2.1 : Int) == (ej.2.1 : Int)) = true := by simp; omega
                have hfn : fin E j = false := by
                  cases hf : fin E j with
                  | false => rfl
                  | true =>
                    have := (fin_iff E j).1 hf l hl1 (by omega)
                    rw [← HEL.out.1, ← HEL.out.2] at this
                    simp [sm, h8, hp] at this
                have HFN := hide hfn
                clear hfn
                go_quiet (fail)
                go_wp2_with fail
                go_meet
                have e6 := HN.out.2
                rw [e6]
                refine ⟨Below.setCell (below_drewN (below_drewN H6.out.1 d) _) (by simp) _, fun i hi => (H6.out.2.2.2.1 HFN.out) i hi, fun i hi => (H6.out.2.1.ot (H6.out.2.2.2.2 (.bool false)) (by omega)) i hi⟩
              · have hd2 : ((el.2.1 : Int) == (ej.2.1 : Int)) = false := by simp; omega
                have hsm : sm el ej = false := by simp [sm, hp]
                go_quiet (fail)
                go_wp2_with fail
                exact ⟨HX.out _ hsm, by simp [intOf]; omega⟩
            · have hd : ((el.1 : Int) % 8 == (ej.1 : Int) % 8) = false := by simp; omega
              have hsm : sm el ej = false := by simp [sm, h8]
              go_quiet (fail)
              go_wp2_with fail
              exact ⟨HX.out _ hsm, by simp [intOf]; omega⟩
          · have hli : ¬ (l : Int) < L := by omega
            have hfn : fin E j = true := (fin_iff E j).2 (fun x h1 h2 => hno x h1 (by omega))
            have HN := hide (And.intro hwd hfn)
            clear hno hwd hfn fc6 ff6
            go_wp2_with fail
            go_meet
            rw [HN.out.1]
            exact ⟨below_drewN H6.out.1 d, (H6.out.2.2.1 HN.out.2).drewN d, H6.out.2.1.drewN d⟩
      case rest =>
        obtain ⟨hb7, hf7, hk7⟩ := hcut
        have fj := (hf7 j hjL).1
        simp only [Nat.lt_succ_self, decide_true, Bool.true_and] at fj
        have hbw : Below w.heap.size w wc := HF.out.below.trans (hb7.mono HF.out.below.size)
        have p0 := (hbw.cell (p := ⟨b, off + j * 3, none⟩) hbl).trans (HE.out.name j hj')
        have p2 := (hbw.cell (p := ⟨b, off + j * 3 + 2, none⟩) hbl).trans (HE.out.ago j hj')
        have bn := HE.out.names j hj'
        have kj := hk7 ((ea E j).1 % 8) (by omega)
        have kc := kj.1
        have kf := kj.2
        have hcl := cnt_le ((ea E j).1 % 8) E j
        have hcs := fun k => cnt_succ k E j
        have H7 := hide (And.intro hb7 (And.intro hf7 (And.intro hk7 hcs)))
        clear hb7 hf7 hk7 kj H6 HW fc6 ff6 hbw hcs
        generalize hej : ea E j = ej at p0 p2 bn kc kf hcl H7
        generalize hcn : cnt (ej.1 % 8) E j = cn at kc hcl
        generalize hfn : fin E j = fn at fj H7
        have hsame : (∀ k, cnt k E (j + 1) = cnt k E j) → (∃ j_1 : Nat, j_1 ≤ L ∧ Value.int IntKind.i64 ((j : Int) + 1) = Value.int IntKind.i64 j_1 ∧ Below w4.heap.size w4 wc ∧ FLs wc (w4.heap.size + 1) L (fun i => decide (i < j_1) && fin E i) ∧ KPs wc w4.heap.size (fun k => cnt k E j_1)) := fun h =>
          ⟨j + 1, by omega, by go_num, H7.out.1, H7.out.2.1, fun k hk => by
            show wc.cell? _ = some (Value.int .i64 ((cnt k E (j + 1) : Nat) : Int)) ∧ _
            rw [h k]
            exact H7.out.2.2.1 k hk⟩
        have HSM := hide hsame
        clear hsame
        cases fn with
        | true =>
          by_cases h3 : ej.2.2 < 3
          · go_wp2_with fail
            refine ⟨⟨j + 1, by omega, by go_num, Below.setCell H7.out.1 (Nat.le_refl _) _, H7.out.2.1.ot ((Ot.refl (fun k => k = w4.heap.size) wc).setCell (fun _ => rfl) _) (by omega), ?_⟩, by simp [intOf]; omega⟩
            rw [show ((cn : Int) + 1) = ((cn + 1 : Nat) : Int) by omega]
            refine H7.out.2.2.1.set (by omega) (fun x _ => ?_)
            rw [H7.out.2.2.2 x]
            by_cases hx : x = ej.1 % 8
            · rw [if_pos hx, if_pos ⟨by simp [h3], hx.symm⟩, hx, hcn]
            · rw [if_neg hx, if_neg (fun h => hx h.2.symm)]
              omega
          · have hc0 : ∀ k, cnt k E (j + 1) = cnt k E j := fun k => by
              rw [H7.out.2.2.2 k, if_neg (fun h => h3 (by simpa using h.1))]
              omega
            have HC0 := hide hc0
            clear hc0
            go_wp2_with fail
            exact ⟨HSM.out HC0.out, by simp [intOf]; omega⟩
        | false =>
          have hc0 : ∀ k, cnt k E (j + 1) = cnt k E j := fun k => by
            rw [H7.out.2.2.2 k, if_neg (fun h => by simp at h)]
            omega
          have HC0 := hide hc0
          clear hc0
          go_wp2_with fail
          exact ⟨HSM.out HC0.out, by simp [intOf]; omega⟩
    · have hji : ¬ (j : Int) < L := by omega
      have he : j = L := by omega
      subst he
      have HR := hide (And.intro hb (And.intro hf hk))
      clear hb hf hk
      go_wp2_with fail
      refine HQ.out _ _ _ _ _ _ _ _ _ _ _ _ _ _ _ _ _ _ _ _ _ _ _ _ _ _ _ _ _ _ _ _ _ _ _ _ _ _ _ _ _ _ _ _ _ _ _ _ _ _ _ _ _ _ _ _ _ _ _ _ _ _ _ _ _ _ _ _ _ _ _ _ ?_
      refine ⟨HR.out.1, fun i hi => ?_, HR.out.2.2⟩
      have := HR.out.2.1 i hi
      simpa [hi] using this

end Go.Proofs.Ybulkdjcm
