/-
  THE LAW (func 3): what follows her seventh loop.
-/
import Derived.Test.YbulkdjggFmtLm
import Derived.Test.YbulkdjggFmtLh
import Derived.Test.YbulkdjggFmtLi
import Derived.Test.YbulkdjggFmtLj
import Derived.Test.YbulkdjggFmtArcs
namespace Go.Proofs.YbulkdjggFmt
open Go.RowKit Go.Sort Go.ChangeMaps

theorem getD_mapB (f : ByteArray → Nat) (l : List ByteArray) (j : Nat) (d : ByteArray) (hj : j < l.length) : (l.map f).getD j 0 = f (l.getD j d) := by simp [List.getD_eq_getElem?_getD, hj]

theorem stps_len {skip : Nat → Bool} {off : Nat → List Nat} {st lst : Nat → Nat} : ∀ (n i : Nat) (s : List Nat × Bool), (stps skip off st lst n i s).1.length ≤ s.1.length + n
  | 0, _, _ => Nat.le_refl _
  | n + 1, i, s => by
    rw [stps]
    have h := stps_len (skip := skip) (off := off) (st := st) (lst := lst) n (i + 1) (stp skip off st lst i s)
    have h2 : (stp skip off st lst i s).1.length ≤ s.1.length + 1 := by
      unfold stp
      split
      · omega
      · simp only [List.length_append]
        cases pickP (st i) (lst i) (off i) (takeP (off i).length s.2) <;> simp
    omega

/-- What follows a block. -/
def aft (n : Nat) : Code → Option Code
  | .seq a b => match a with
    | .block m _ => if m = n then some b else aft n b
    | .seq _ c => match c with
      | .block m _ => if m = n then some b else aft n b
      | _ => aft n b
    | _ => aft n b
  | _ => none

/-- What the law has laid: the ring and its copies. -/
structure Tl (R nb ob n cn pn : Nat) (ov ow : Nat → Value) (px : Nat → List Nat) (pb cp nb2 pb2 ob2 : Nat) (pts : Array Pt) (ka : Option Addr) (ks : List ByteArray) (W : World) : Prop where
  er : Er R nb ob n cn pn ov px W
  pt : Pts R pb cp pts W
  nc : ∀ i, i < n → W.cell? ⟨nb2, i, none⟩ = some (.string (nm i))
  pc : HoldsK enc 2 W pb2 0 pts
  oc : ∀ i, i < n → W.cell? ⟨ob2, i, none⟩ = some (ow i)
  od : ∀ i, i < n → Rd W (ow i) (px i)
  kk : Strs W ka ks

theorem Tl.below {R nb ob n cn pn : Nat} {ov ow : Nat → Value} {px : Nat → List Nat} {pb cp nb2 pb2 ob2 : Nat} {pts : Array Pt} {ka : Option Addr} {ks : List ByteArray} {W W' : World} (h : Tl R nb ob n cn pn ov ow px pb cp nb2 pb2 ob2 pts ka ks W) (hb : Below W.heap.size W W') :
    Tl R nb ob n cn pn ov ow px pb cp nb2 pb2 ob2 pts ka ks W' := by
  have ho := Ot.of_below (fun _ => False) hb
  exact ⟨h.er.ot ho (fun h => h) (fun h => h) (fun h => h) (fun _ _ _ _ h => h), h.pt.below hb, fun i hi => ho.cellv (h.nc i hi) (fun h => h), holds_ot h.pc ho (fun h => h), fun i hi => ho.cellv (h.oc i hi) (fun h => h), fun i hi => (h.od i hi).ot ho (fun _ _ h => h), h.kk.below hb⟩

set_option maxHeartbeats 4000000 in
set_option maxRecDepth 1000000 in
theorem law_end {x0 x1 x2 x3 x4 x5 x6 x7 x8 x9 x10 x11 x12 x13 x14 x15 x16 x17 x18 x19 x20 x22 x23 x24 x28 x30 x31 x32 x33 x34 x35 x36 x37 x38 x39 x40 x41 x42 x43 x44 x45 x46 x47 x48 x49 x50 x51 x52 x53 x54 x55 x56 x57 x58 x59 x60 x61 x62 x63 x64 x65 x66 x67 x68 x69 x70 x71 x72 x73 x74 x75 x76 x77 x78 x79 x80 x81 x82 x83 x84 x85 x86 x87 x88 x89 x90 x91 x92 x93 x94 x95 x96 x97 x98 x99 x100 x101 x102 x103 x104 x105 x106 x107 x108 x109 x110 x111 x112 x113 x114 x115 x116 x117 x118 x119 x120 x121 x122 x123 x124 x125 x126 x127 x128 x129 x130 x131 x132 x133 x134 x135 x136 x137 x138 x139 x140 x141 x142 x143 x144 x145 x146 x147 x148 x149 x150 x151 x152 x153 x154 x155 x156 x157 x158 x159 x160 x161 x162 x163 x164 x165 x166 x167 x168 x169 x170 x171 x172 x173 x174 x175 x176 x177 x178 x179 x180 x181 x182 x183 x184 x185 x186 x187 x188 x189 x190 x191 x192 x193 x194 x195 x196 x197 x198 x199 x200 x201 x202 x203 x204 x205 x206 x207 x208 x209 x210 x211 x212 x213 x214 x215 x216 x217 x218 x219 x220 x221 x222 x223 x224 x225 x226 x227 x228 x229 x230 x231 x232 x233 x234 x235 x236 x237 x238 x239 x240 x241 x242 x243 x244 x245 x246 x247 x248 x249 x250 x251 x252 x253 x254 x255 x256 x257 x258 x259 x260 x261 x262 x263 x264 x265 x266 x267 x268 x269 x270 x271 x272 x273 x274 x275 x276 x277 x278 x279 x280 x281 x282 x283 x284 x285 x286 x287 x288 x289 x290 x291 x292 x293 x294 x295 x296 x297 x298 x299 x300 x301 x302 x303 x304 x305 x306 x307 x308 x309 x310 x311 x312 x313 x314 x315 x316 x317 x318 x319 x320 x321 x322 x323 x324 x325 x326 x327 x328 x329 x330 x331 x332 x333 x334 x335 x336 x337 x338 x339 x340 x341 x342 x343 x344 x345 x346 x347 x348 x349 x350 x351 x352 x353 x354 x355 x356 x357 x358 x359 x360 x361 x362 x363 x364 x365 x366 x367 x368 x369 x370 x371 x372 x373 x374 x375 x376 x377 x378 x379 x380 x381 x382 x383 x384 x385 x386 x387 x388 x389 x390 x391 x392 x393 : Value} {ka : Option Addr} {R nb ob n cn pn pb cp nb2 pb2 ob2 N : Nat} {ov ow : Nat → Value} {px : Nat → List Nat} {pts : Array Pt} {ks : List ByteArray} (w W : World)
    (hT : Tl R nb ob n cn pn ov ow px pb cp nb2 pb2 ob2 pts ka ks W) (hN : N = pts.size) (hn4 : n ≤ 4) (hN2 : N ≤ 20000) (hpx : ∀ j, (px j).length ≤ 4096) (hb : Below w.heap.size w W) :
    Code.wp Ybaf.prog ((Ybaf.f3.body.bind (aft 12)).getD .skip) (bodyPost Ybaf.prog Ybaf.f3 fun e w' => e = .returned (.bool true) ∧ Below w.heap.size w w') ⟨#[x0, x1, x2, x3, x4, x5, x6, x7, x8, x9, x10, x11, x12, x13, x14, x15, x16, x17, x18, x19, x20, .pointer (some ⟨R, 0, none⟩), x22, x23, x24, .slice (some ⟨nb2, 0, none⟩) n n, .slice (some ⟨pb2, 0, none⟩) N N, .slice (some ⟨ob2, 0, none⟩) n n, x28, .int .i64 (pn : Nat), x30, x31, x32, x33, x34, x35, x36, x37, x38, x39, x40, x41, x42, x43, x44, x45, x46, x47, x48, x49, x50, x51, x52, x53, x54, x55, x56, x57, x58, x59, x60, x61, x62, x63, x64, x65, x66, x67, x68, x69, x70, x71, x72, x73, x74, x75, x76, x77, x78, x79, x80, x81, x82, x83, x84, x85, x86, x87, x88, x89, x90, x91, x92, x93, x94, x95, x96, x97, x98, x99, x100, x101, x102, x103, x104, x105, x106, x107, x108, x109, x110, x111, x112, x113, x114, x115, x116, x117, x118, x119, x120, x121, x122, x123, x124, x125, x126, x127, x128, x129, x130, x131, x132, x133, x134, x135, x136, x137, x138, x139, x140, x141, x142, x143, x144, x145, x146, x147, x148, x149, x150, x151, x152, x153, x154, x155, x156, x157, x158, x159, x160, x161, x162, x163, x164, x165, x166, x167, x168, x169, x170, x171, x172, x173, x174, x175, x176, x177, x178, x179, x180, x181, x182, x183, x184, x185, x186, x187, x188, x189, x190, x191, x192, x193, x194, x195, x196, x197, x198, x199, x200, x201, x202, x203, x204, x205, x206, x207, x208, x209, x210, x211, x212, x213, x214, x215, x216, x217, x218, x219, x220, x221, x222, x223, x224, x225, x226, x227, x228, x229, x230, x231, x232, x233, x234, x235, x236, x237, x238, x239, x240, x241, x242, x243, x244, x245, x246, x247, x248, x249, x250, x251, x252, x253, x254, x255, x256, x257, x258, x259, x260, x261, x262, x263, x264, x265, x266, x267, x268, x269, x270, x271, x272, x273, x274, x275, x276, x277, x278, x279, x280, x281, x282, x283, x284, x285, x286, x287, x288, x289, x290, x291, x292, x293, x294, x295, x296, x297, x298, x299, x300, x301, x302, x303, x304, x305, x306, x307, x308, x309, x310, x311, x312, x313, x314, x315, x316, x317, x318, x319, x320, x321, x322, x323, x324, x325, x326, x327, x328, x329, x330, x331, x332, x333, x334, x335, x336, x337, x338, x339, x340, x341, x342, x343, x344, x345, x346, x347, x348, x349, x350, x351, x352, x353, x354, x355, x356, x357, x358, x359, x360, x361, x362, x363, x364, x365, x366, x367, x368, x369, x370, x371, x372, x373, x374, x375, x376, x377, x378, x379, x380, x381, x382, x383, x384, x385, x386, x387, x388, x389, x390, x391, x392, x393], []⟩ W := by
  conv => arg 2; whnf
  have c0 := hT.er.c0
  have c1 := hT.er.c1
  have c2 := hT.er.c2
  have c3 := hT.pt.c3
  rw [← hN] at c3
  have H := hide (And.intro hT (And.intro hb (And.intro hpx hN)))
  clear hT hb hpx hN
  go_upto_block 14 with (fail)
  clear c0 c1 c2 c3
  go_cut [10, 37] (fun v10 v37 wx => ∃ q, wx = W.drewN q)
  case first =>
    refine st8 W _ hn4 H.out.1.er.c0 H.out.1.er.ns H.out.1.nc ?_
    intros
    rename_i wz h
    dsimp only
    go_wp2_with fail
    go_meet
    exact h
  case rest =>
    obtain ⟨q1, rfl⟩ := hcut
    obtain ⟨hT, hb, hpx, hN⟩ := H.out
    have hT1 := hT.below (below_drewN (Below.refl _ _) q1)
    have hb1 := below_drewN hb q1
    have H1 := hide (And.intro hT1 (And.intro hb1 (And.intro hpx hN)))
    clear hT hb hpx hN hT1 hb1 H
    generalize W.drewN q1 = W1 at *
    go_upto_block 16 with (fail)
    go_cut [10, 38] (fun v10 v38 wx => ∃ q, wx = W1.drewN q)
    case first =>
      have hc3 := H1.out.1.pt.c3
      rw [← H1.out.2.2.2] at hc3
      refine st9 (pts := pts) W1 _ (by omega) H1.out.2.2.2.symm hc3 H1.out.1.pt.row H1.out.1.pc ?_
      clear hc3
      intros
      rename_i wz h
      dsimp only
      go_wp2_with fail
      go_meet
      exact h
    case rest =>
      obtain ⟨q2, rfl⟩ := hcut
      obtain ⟨hT, hb, hpx, hN⟩ := H1.out
      have hT1 := hT.below (below_drewN (Below.refl _ _) q2)
      have hb1 := below_drewN hb q2
      have H2 := hide (And.intro hT1 (And.intro hb1 hpx))
      clear hT hb hpx hN hT1 hb1 H1
      generalize W1.drewN q2 = W2 at *
      go_upto_block 18 with (fail)
      go_cut [10, 39] (fun v10 v39 wx => Ot (fun _ => False) W2 wx)
      case first =>
        refine st10 (px := px) W2 _ hn4 H2.out.1.er.c2 H2.out.1.er.os H2.out.1.oc H2.out.1.er.rd H2.out.1.od H2.out.2.2 ?_
        intros
        rename_i wz h
        dsimp only
        go_wp2_with fail
        go_meet
        exact h
      case rest =>
        have hb3 := H2.out.2.1.trans (hcut.below H2.out.2.1.size (fun _ h => h.elim))
        go_wp2_with fail
        go_ret
        exact ⟨rfl, hb3⟩

end Go.Proofs.YbulkdjggFmt
