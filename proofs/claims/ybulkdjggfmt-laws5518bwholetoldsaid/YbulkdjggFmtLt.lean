/-
  THE LAW (func 3): what follows her fourth loop.
-/
import Derived.Test.YbulkdjggFmtLu
import Derived.Test.YbulkdjggFmtLe
import Derived.Test.YbulkdjggFmtLf
import Derived.Test.YbulkdjggFmtLg
import Derived.Test.YbulkdjggFmtLh
import Derived.Test.YbulkdjggFmtLi
import Derived.Test.YbulkdjggFmtLj
import Derived.Test.YbulkdjggFmtS
import Derived.Test.YbulkdjggFmtW
import Derived.Test.YbulkdjggFmtArcs
namespace Go.Proofs.YbulkdjggFmt
open Go.RowKit Go.Sort Go.ChangeMaps

set_option maxHeartbeats 4000000 in
set_option maxRecDepth 1000000 in
theorem law_tail {x0 x1 x2 x3 x5 x6 x7 x8 x9 x10 x11 x12 x13 x14 x15 x16 x17 x18 x19 x20 x22 x23 x28 x29 x30 x31 x32 x33 x34 x35 x36 x37 x38 x39 x40 x41 x42 x43 x44 x45 x46 x47 x48 x49 x50 x51 x52 x53 x54 x55 x56 x57 x58 x59 x60 x61 x62 x63 x64 x65 x66 x67 x68 x69 x70 x71 x72 x73 x74 x75 x76 x77 x78 x79 x80 x81 x82 x83 x84 x85 x86 x87 x88 x89 x90 x91 x92 x93 x94 x95 x96 x97 x98 x99 x100 x101 x102 x103 x104 x105 x106 x107 x108 x109 x110 x111 x112 x113 x114 x115 x116 x117 x118 x119 x120 x121 x122 x123 x124 x125 x126 x127 x128 x129 x130 x131 x132 x133 x134 x135 x136 x137 x138 x139 x140 x141 x142 x143 x144 x145 x146 x147 x148 x149 x150 x151 x152 x153 x154 x155 x156 x157 x158 x159 x160 x161 x162 x163 x164 x165 x166 x167 x168 x169 x170 x171 x172 x173 x174 x175 x176 x177 x178 x179 x180 x181 x182 x183 x184 x185 x186 x187 x188 x189 x190 x191 x192 x193 x194 x195 x196 x197 x198 x199 x200 x201 x202 x203 x204 x205 x206 x207 x208 x209 x210 x211 x212 x213 x214 x215 x216 x217 x218 x219 x220 x221 x222 x223 x224 x225 x226 x227 x228 x229 x230 x231 x232 x233 x234 x235 x236 x237 x238 x239 x240 x241 x242 x243 x244 x245 x246 x247 x248 x249 x250 x251 x252 x253 x254 x255 x256 x257 x258 x259 x260 x261 x262 x263 x264 x265 x266 x267 x268 x269 x270 x271 x272 x273 x274 x275 x276 x277 x278 x279 x280 x281 x282 x283 x284 x285 x286 x287 x288 x289 x290 x291 x292 x293 x294 x295 x296 x297 x298 x299 x300 x301 x302 x303 x304 x305 x306 x307 x308 x309 x310 x311 x312 x313 x314 x315 x316 x317 x318 x319 x320 x321 x322 x323 x324 x325 x326 x327 x328 x329 x330 x331 x332 x333 x334 x335 x336 x337 x338 x339 x340 x341 x342 x343 x344 x345 x346 x347 x348 x349 x350 x351 x352 x353 x354 x355 x356 x357 x358 x359 x360 x361 x362 x363 x364 x365 x366 x367 x368 x369 x370 x371 x372 x373 x374 x375 x376 x377 x378 x379 x380 x381 x382 x383 x384 x385 x386 x387 x388 x389 x390 x391 x392 x393 : Value} {ka : Option Addr} {K kc R nb ob n cn pn pb cp nb2 pb2 ob2 N : Nat} {ov ow : Nat → Value} {px : Nat → List Nat} {pts : Array Pt} {ks : List ByteArray} {u : ByteArray} (w W : World)
    (hT : Tl R nb ob n cn pn ov ow px pb cp nb2 pb2 ob2 pts ka ks W) (hN : N = pts.size) (hK : ks.length = K) (hK4 : K ≤ 2048) (hks : ∀ s ∈ ks, s.size ≤ 9223372036854775807) (hn4 : n ≤ 4) (hN0 : 0 < N) (hN2 : N ≤ 20000) (hok : ∀ t, t < pts.size → okP n pts[t]!) (hso : ∀ i j, i < j → j < pts.size → pts[i]!.1 ≤ pts[j]!.1) (hpx : ∀ j, (px j).length ≤ 4096) (hb : Below w.heap.size w W) :
    Code.wp Ybaf.prog ((Ybaf.f3.body.bind (aft 6)).getD .skip) (bodyPost Ybaf.prog Ybaf.f3 fun e w' => e = .returned (.bool true) ∧ Below w.heap.size w w') ⟨#[x0, x1, x2, x3, .slice ka K kc, x5, x6, x7, x8, x9, x10, x11, x12, x13, x14, x15, x16, x17, x18, x19, x20, .pointer (some ⟨R, 0, none⟩), x22, x23, .string u, .slice (some ⟨nb2, 0, none⟩) n n, .slice (some ⟨pb2, 0, none⟩) N N, .slice (some ⟨ob2, 0, none⟩) n n, x28, x29, x30, x31, x32, x33, x34, x35, x36, x37, x38, x39, x40, x41, x42, x43, x44, x45, x46, x47, x48, x49, x50, x51, x52, x53, x54, x55, x56, x57, x58, x59, x60, x61, x62, x63, x64, x65, x66, x67, x68, x69, x70, x71, x72, x73, x74, x75, x76, x77, x78, x79, x80, x81, x82, x83, x84, x85, x86, x87, x88, x89, x90, x91, x92, x93, x94, x95, x96, x97, x98, x99, x100, x101, x102, x103, x104, x105, x106, x107, x108, x109, x110, x111, x112, x113, x114, x115, x116, x117, x118, x119, x120, x121, x122, x123, x124, x125, x126, x127, x128, x129, x130, x131, x132, x133, x134, x135, x136, x137, x138, x139, x140, x141, x142, x143, x144, x145, x146, x147, x148, x149, x150, x151, x152, x153, x154, x155, x156, x157, x158, x159, x160, x161, x162, x163, x164, x165, x166, x167, x168, x169, x170, x171, x172, x173, x174, x175, x176, x177, x178, x179, x180, x181, x182, x183, x184, x185, x186, x187, x188, x189, x190, x191, x192, x193, x194, x195, x196, x197, x198, x199, x200, x201, x202, x203, x204, x205, x206, x207, x208, x209, x210, x211, x212, x213, x214, x215, x216, x217, x218, x219, x220, x221, x222, x223, x224, x225, x226, x227, x228, x229, x230, x231, x232, x233, x234, x235, x236, x237, x238, x239, x240, x241, x242, x243, x244, x245, x246, x247, x248, x249, x250, x251, x252, x253, x254, x255, x256, x257, x258, x259, x260, x261, x262, x263, x264, x265, x266, x267, x268, x269, x270, x271, x272, x273, x274, x275, x276, x277, x278, x279, x280, x281, x282, x283, x284, x285, x286, x287, x288, x289, x290, x291, x292, x293, x294, x295, x296, x297, x298, x299, x300, x301, x302, x303, x304, x305, x306, x307, x308, x309, x310, x311, x312, x313, x314, x315, x316, x317, x318, x319, x320, x321, x322, x323, x324, x325, x326, x327, x328, x329, x330, x331, x332, x333, x334, x335, x336, x337, x338, x339, x340, x341, x342, x343, x344, x345, x346, x347, x348, x349, x350, x351, x352, x353, x354, x355, x356, x357, x358, x359, x360, x361, x362, x363, x364, x365, x366, x367, x368, x369, x370, x371, x372, x373, x374, x375, x376, x377, x378, x379, x380, x381, x382, x383, x384, x385, x386, x387, x388, x389, x390, x391, x392, x393], []⟩ W := by
  conv => arg 2; whnf
  have HH := hide (And.intro hT (And.intro hK (And.intro hks (And.intro hok (And.intro hso (And.intro hpx (And.intro hb hN)))))))
  have c1 := hT.er.c1
  obtain ⟨Z1, hZ1s, hZ1, hmk1⟩ := make23 K (by omega)
  have hmk1' := hmk1 W
  obtain ⟨kb2, hkb2⟩ : ∃ b, b = W.heap.size := ⟨_, rfl⟩
  have hf1 := fresh_copy (W := W) (b := kb2) (e := 9) (Z := Z1) (cs := strs ks) hkb2 (by simp [hZ1s, hK])
  have hb1 := below_alloc W (.cells Z1 9)
  have hcp1 := fun ty => copy_keys (W := W.alloc (.cells Z1 9)) (ka := ka) (K := K) (kc := kc) (b2 := kb2) (ks := ks) (hT.kk.below hb1) hK (fun j hj => hf1.1 j (by simpa [hK] using hj)) hf1.2.1 ty
  obtain ⟨W2, hW2⟩ : ∃ W2, W2 = (W.alloc (.cells Z1 9)).setCells kb2 0 (strs ks) := ⟨_, rfl⟩
  rw [← hW2] at hf1 hcp1
  have HF1 := hide (And.intro (strs_at hf1.2.2.1) hf1.2.2.2.2)
  rw [hkb2] at hcp1
  clear hT hK hks hok hso hpx hb hN hmk1 hf1 hb1 hW2 hZ1
  go_upto_region 47 with (fail)
  rw [← hkb2]
  clear hcp1 hmk1' hkb2 c1
  obtain ⟨Z3, hZ3s, hZ3, hmk3⟩ := make25 K (by omega)
  have hmk3' := hmk3 W2
  obtain ⟨hb2, hhb2⟩ : ∃ b, b = W2.heap.size := ⟨_, rfl⟩
  obtain ⟨W3, hW3⟩ : ∃ W3, W3 = W2.alloc (.cells Z3 28) := ⟨_, rfl⟩
  have hb3 : Below W2.heap.size W2 W3 := by rw [hW3]; exact below_alloc _ _
  have hz3 : ∀ j, j < K → (W3.cell? ⟨hb2, j, none⟩).isSome = true ∧ W3.frozen? ⟨hb2, j, none⟩ = false := fun j hj => by
    rw [hW3]
    exact ⟨by rw [World.cell?_alloc_at _ _ _ _ hhb2, hZ3 j hj]; rfl, World.frozen?_alloc_at _ _ _ _ hhb2⟩
  have HF3 := hide (And.intro hb3 (And.intro hz3 hhb2))
  clear hmk3 hZ3 hb3 hz3
  go_upto_block 8 with (fail)
  rw [← hW3, ← hhb2]
  clear hW3 hmk3' hhb2
  go_cut [32] (fun v32 wc => (∀ j, j < K → wc.cell? ⟨hb2, j, none⟩ = some (.int .u64 (hN (ks.getD j ⟨#[]⟩) : Nat))) ∧ Ot (fun k => k = hb2) W3 wc)
  case first =>
    obtain ⟨hT, hK, hks, _⟩ := HH.out
    obtain ⟨hb3, hz3, hhb2⟩ := HF3.out
    have hT3 := (hT.below HF1.out.2).below hb3
    have hT2 := hT.below HF1.out.2
    refine st5 W3 _ hT3.kk hK (by omega) hks (fun h0 b off hka he => ?_) hz3 ?_
    · obtain ⟨b', off', h1, h2⟩ := hT2.kk (by omega)
      rw [hka] at h1
      simp only [Option.some.injEq, Addr.mk.injEq] at h1
      have := World.block_lt_of_cell? _ _ (h2 0 (by omega))
      dsimp only at this
      omega
    clear hT hK hks hb3 hz3 hhb2 hT3 hT2
    intros
    rename_i wz h
    dsimp only
    go_wp2_with fail
    go_meet
    exact h
  case rest =>
    obtain ⟨hh4, hot4⟩ := hcut
    obtain ⟨hT, hK, hks, hok, hso, hpx, hb, hN'⟩ := HH.out
    obtain ⟨hb3, hz3, hhb2⟩ := HF3.out
    have hb24 : Below W2.heap.size W2 wc := hb3.trans (hot4.below hb3.size (fun k hk => by omega))
    have hT4 := (hT.below HF1.out.2).below hb24
    have hk4 : ∀ j, j < ks.length → wc.cell? ⟨kb2, j, none⟩ = some (.string (ks.getD j ⟨#[]⟩)) := fun j hj => (hb24.cell (World.block_lt_of_cell? _ _ (HF1.out.1 j hj))).trans (HF1.out.1 j hj)
    have hbw4 : Below w.heap.size w wc := below_next (below_next hb HF1.out.2) hb24
    have hmin : Min pb2 nb2 n hb2 pts (ks.map hN) wc := ⟨hT4.pc, hT4.nc, fun j hj => by
      have hj' : j < ks.length := by simpa using hj
      rw [hh4 j (by omega), getD_mapB hN ks j ⟨#[]⟩ hj']⟩
    have hc6 := model_at pb2 N nb2 n n hb2 K pts (ks.map hN) u (fun i => ((nm i).toList == u.toList)) wc hmin (fun _ _ => rfl) (by omega) (by rw [List.length_map]; omega) (fun t ht => (hok t ht).2)
    rw [List.length_map, hK, ← hN'] at hc6
    obtain ⟨ST, hST⟩ : ∃ s, s = stps (skipP (fun i => ((nm i).toList == u.toList)) pts) (offS pts (ks.map hN)) (arc pts) (lastP pts) N 0 ([], false) := ⟨_, rfl⟩
    have HSTL : Hid (ST.1.length ≤ N) := hide (by
      rw [hST]
      have := stps_len (skip := skipP (fun i => ((nm i).toList == u.toList)) pts) (off := offS pts (ks.map hN)) (st := arc pts) (lst := lastP pts) N 0 ([], false)
      simpa using this)
    have hse := split_eq (fun i => ((nm i).toList == u.toList)) pts (ks.map hN) hso (fun t ht => (hok t ht).1) (fun h hm => by obtain ⟨s, _, rfl⟩ := List.mem_map.1 hm; exact hN_lt s)
    rw [← hN'] at hse
    rw [hse, ← hST] at hc6
    obtain ⟨W4, hW4⟩ : ∃ W4, W4 = wc := ⟨_, rfl⟩
    subst hW4
    have H4 := hide (And.intro hT4 (And.intro hk4 hbw4))
    have HC6 := hide (hc6.mono (R' := fun e w' => ∃ a1 c1 L, e = .returned (.slice a1 L c1) ∧ Own w' W4.heap.size (.slice a1 L c1) (srt ST.1) ∧ L = (srt ST.1).length ∧ Below W4.heap.size W4 w') (fun e w' ⟨v, ys, k1, k2, k3, k4, k5⟩ => by
      have : ys = srt ST.1 := srt_of k3 k4
      subst this
      obtain ⟨a1, c1, rfl, _⟩ := k2.shape
      exact ⟨a1, c1, _, k1, k2, rfl, k5⟩))
    have HC7 : Hid (∀ w5, Below W4.heap.size W4 w5 → Calls Ybaf.prog 7 #[.pointer (some ⟨R, 0, none⟩), .string u, .slice ka K kc] w5 fun e w' => ∃ a2 c2 L, e = .returned (.slice a2 L c2) ∧ Own w' w5.heap.size (.slice a2 L c2) (srt ST.1) ∧ L = (srt ST.1).length ∧ (.slice a2 L c2 = nilS ↔ ST.1 = []) ∧ Below w5.heap.size w5 w') := hide (fun w5 hb5 => by
      have hT5 := hT4.below hb5
      have := split_at R pb cp nb n cn kc ka pts ks u (fun i => ((nm i).toList == u.toList)) w5 ⟨hT5.pt, hT5.er.c0, hT5.er.ns⟩ hT5.kk hks (fun _ _ => rfl) (by omega) (by omega) (by omega) (fun t ht => (hok t ht).2) hso
      rw [hK, ← hN', ← hST] at this
      refine this.mono (fun e w' ⟨v, k1, k2, k3, k4⟩ => ?_)
      obtain ⟨a2, c2, rfl, _⟩ := k2.shape
      exact ⟨a2, c2, _, k1, k2, rfl, k3, k4⟩)
    clear hc6 hse hT4 hk4 hbw4 hmin hb24 hh4 hot4 hT hK hks hok hso hpx hb hN' hb3 hz3 hhb2 hST
    go_upto_region 54 with (first
      | (go_at_call 6; refine HC6.out.mono ?_; rintro e w5 ⟨a1, c1, L, rfl, hO1, hL1, hb5⟩; have HL1 := hide hL1; clear hL1)
      | (go_at_call 7; refine (HC7.out w5 hb5).mono ?_; rintro e w6 ⟨a2, c2, L2, rfl, hO2, hL2, hnil, hb6⟩; have hLL : L2 = L := hL2.trans HL1.out.symm; subst hLL; clear hL2))
    have hO1' := hO1.below hb6
    have H6 := hide (And.intro hO1' (And.intro hO2 (And.intro hnil (And.intro hb5 hb6))))
    have hLb : L2 ≤ 20000 := by
      rw [HL1.out, (srt_perm ST.1).length_eq]
      exact Nat.le_trans HSTL.out hN2
    clear hO1 hO1' hO2 hnil hb5 hb6 HC6 HC7
    go_cut [272] (fun v272 wx => v272 = .bool false ∧ wx = w6)
    case first =>
      by_cases hL0 : L2 = 0
      · have hn : (Value.slice a2 L2 c2) = nilS := H6.out.2.2.1.2 (by
          have : (srt ST.1).length = 0 := by rw [← HL1.out]; exact hL0
          rw [(srt_perm ST.1).length_eq] at this
          exact List.eq_nil_of_length_eq_zero this)
        simp only [Value.slice.injEq] at hn
        obtain ⟨rfl, _, rfl⟩ := hn
        have hq := eqN w6
        subst hL0
        go_wp2_with fail
        go_meet
        case rel => exact ⟨rfl, rfl⟩
      · have hL0i : ¬ (L2 : Int) = 0 := by omega
        have hform : ∃ g, a2 = some ⟨g, 0, none⟩ := by
          rcases H6.out.2.1.form with ⟨h, _⟩ | ⟨g, cap, h, _⟩
          · simp only [Value.slice.injEq] at h; omega
          · simp only [Value.slice.injEq] at h; exact ⟨g, h.1⟩
        obtain ⟨g, rfl⟩ := hform
        have hq := eqS w6 g L2 c2
        go_wp2_with fail
        go_meet
        case rel => exact ⟨by simp [hL0], rfl⟩
    case rest =>
      obtain ⟨rfl, rfl⟩ := hcut
      rename World => w6
      obtain ⟨hO1, hO2, _, hb5, hb6⟩ := H6.out
      obtain ⟨hT4, hk4, hbw4⟩ := H4.out
      have hT6 := (hT4.below hb5).below hb6
      have hb46 := below_next hb5 hb6
      have hk6 : ∀ j, j < K → w6.cell? ⟨kb2, j, none⟩ = some (.string (ks.getD j ⟨#[]⟩)) := fun j hj => by
        have hj' : j < ks.length := by rw [HH.out.2.1]; exact hj
        exact (hb46.cell (World.block_lt_of_cell? _ _ (hk4 j hj'))).trans (hk4 j hj')
      have hcells : ∀ (a : Option Addr) (c B : Nat), Own w6 B (.slice a L2 c) (srt ST.1) → 0 < L2 → ∃ g, a = some ⟨g, 0, none⟩ ∧ ∀ j, j < L2 → w6.cell? ⟨g, j, none⟩ = some (.int .u64 ((srt ST.1).getD j 0)) := fun a c B ho h0 => by
        rcases ho.form with ⟨h, _⟩ | ⟨g, cap, h, _, _, h3, _⟩
        · simp only [Value.slice.injEq] at h; omega
        · simp only [Value.slice.injEq] at h
          exact ⟨g, h.1, fun j hj => h3 j (by rw [← HL1.out]; exact hj)⟩
      have H7 := hide (And.intro (hcells a1 c1 _ hO1) (And.intro (hcells a2 c2 _ hO2) (And.intro hT6 (And.intro hk6 (below_next hbw4 hb46)))))
      clear hO1 hO2 hb5 hb6 hT4 hk4 hbw4 hT6 hb46 hk6 hcells H6 H4
      go_upto_block 10 with (fail)
      go_cut [10, 35] (fun v10 v35 wx => ∃ q, wx = w6.drewN q)
      case first =>
        refine st6 (ys := srt ST.1) w6 _ (by omega) H7.out.1 H7.out.2.1 ?_
        intros
        rename_i wz h
        dsimp only
        go_wp2_with fail
        go_meet
        exact h
      case rest =>
        obtain ⟨q1, rfl⟩ := hcut
        obtain ⟨_, _, hT6, hk6, hb6⟩ := H7.out
        have hT7 := hT6.below (below_drewN (Below.refl _ _) q1)
        have hb7 := below_drewN hb6 q1
        have hk7 : ∀ j, j < K → (w6.drewN q1).cell? ⟨kb2, j, none⟩ = some (.string (ks.getD j ⟨#[]⟩)) := hk6
        have H8 := hide (And.intro hT7 (And.intro hk7 hb7))
        clear hT6 hk6 hb6 hT7 hb7 hk7 H7
        generalize w6.drewN q1 = w7 at *
        go_upto_block 12 with (fail)
        go_cut [10, 36] (fun v10 v36 wx => ∃ q, wx = w7.drewN q)
        case first =>
          refine st7 (ks := ks) w7 _ H8.out.1.kk HH.out.2.1 (by omega) H8.out.2.1 ?_
          intros
          rename_i wz h
          dsimp only
          go_wp2_with fail
          go_meet
          exact h
        case rest =>
          rename_i ha
          obtain ⟨q2, rfl⟩ := hcut
          obtain ⟨hT7, _, hb7⟩ := H8.out
          have hT8 := hT7.below (below_drewN (Below.refl _ _) q2)
          have hb8 := below_drewN hb7 q2
          have H9 := hide (And.intro hT8 hb8)
          clear hT7 hb7 hT8 hb8 H8
          generalize w7.drewN q2 = w8 at *
          refine ha _ _ ?_
          exact law_end w w8 H9.out.1 HH.out.2.2.2.2.2.2.2 hn4 hN2 HH.out.2.2.2.2.2.1 H9.out.2

end Go.Proofs.YbulkdjggFmt
