import Derived.Test.YbulkclmcBokX
namespace Go.Proofs.Ybulkclmc
open Go.RowKit

def a0 : As := ⟨0, 0, 0⟩
def bv (o : Option As) : As := o.getD a0

set_option maxRecDepth 1000000 in
set_option maxHeartbeats 4000000 in
theorem bok_56 (k BS n lc : Nat) (lp : Option Addr) (o : Option As) (f : Nat → As) (W : World) (hC : Cells W BS 3 (asC (fun _ => bv o))) (hM : 0 < n → ∃ M, lp = some ⟨M, 0, none⟩ ∧ ¬ M = BS ∧ ∀ i, i < n * 3 → W.cell? ⟨M, i, none⟩ = some (asC f i)) (hn : n ≤ 300) (Q : Exit → Act → World → Prop)
    (x0 x1 x2 x3 x4 x5 x6 x7 x8 x9 x10 x11 x12 x13 x14 x15 x16 x17 x18 x19 x20 x21 x22 x23 x24 x25 x26 x27 x28 x29 x30 x31 x32 x33 x34 x35 x36 x37 x41 x42 x43 x44 x45 x46 x47 x48 x49 x50 x51 x52 x53 x54 x55 x56 x57 x58 x59 x60 x61 x62 x63 x64 x65 x66 x67 x68 x69 x70 x71 x72 x73 x74 x75 x76 x77 x78 x79 x80 x81 x82 x83 x84 x85 x86 x87 x88 x89 x90 x91 x92 x93 x94 x95 x96 x97 x98 x99 x100 x101 x102 x103 x104 x105 x106 x107 x108 x109 x110 x111 x112 x113 x114 x115 x116 x117 x118 x119 x120 x121 x122 x123 x124 x125 x126 x127 x128 x129 x130 x131 x132 x133 x134 x135 x136 x137 x138 x139 x140 x141 x142 x143 x144 x145 x146 x147 x148 x149 x150 x151 x152 x153 x154 x155 x156 x157 x158 x159 x160 x161 x162 x163 x164 x165 x166 x167 x168 x169 x170 x171 x172 x173 x174 x175 x176 x177 x178 x179 x180 x181 x182 x183 x184 x185 x186 x187 x188 x189 x190 x191 x192 x193 x194 x195 x196 x197 x198 x199 x200 x201 x202 x203 x204 x205 x206 x207 x208 x209 x210 x211 x212 x213 x214 x215 x216 x217 x218 x219 x220 x221 x222 x223 x224 x225 x226 x227 x228 x229 x230 x231 x232 x233 x234 x235 x236 x237 x238 x239 x240 x241 x242 x243 x244 x245 x246 x247 x248 x249 x250 x251 x252 x253 x254 x255 x256 x257 x258 x259 x260 x261 x262 x263 x264 x265 x266 x267 x271 x272 x273 x274 x275 x276 x277 x278 x279 x280 x281 x282 x283 x284 x285 x286 x287 x288 x289 x290 x291 x292 x293 x294 x295 x296 x297 x298 x299 x300 x301 x302 x303 x304 x305 x306 x307 x308 x309 x310 x311 x312 x313 x314 x315 x316 x317 x318 x319 x320 x321 x322 x323 x324 x325 x326 x327 x328 x329 x330 x331 x332 x333 x334 x335 x336 x337 x338 x339 x340 x341 x342 x343 x344 x345 x346 x347 x348 x349 x350 x351 x352 x353 x354 x355 x356 x357 x358 x359 x360 x361 x362 x363 x364 x365 x366 x367 x368 x369 x370 x371 x372 x373 x374 x375 x376 x377 x378 x379 x380 x381 x382 x383 x384 x385 x386 x387 x388 x389 x390 x391 x392 x393 x394 x395 x396 x397 x398 x399 : Value) (hK : ∀ (wc : World) (y39 y43 y270 y271 y272 y273 y274 y275 y276 y277 y278 y279 y280 y281 y282 y283 y284 y285 y286 y287 y288 y289 y290 : Value), y39 = .bool (bestTo k o f n).isSome ∧ Cells wc BS 3 (asC (fun _ => bv (bestTo k o f n))) ∧ Keeps (fun b => b = BS) W wc → Q .normal ⟨#[x0, x1, x2, x3, x4, x5, x6, x7, x8, x9, x10, x11, x12, x13, x14, x15, x16, x17, x18, x19, x20, x21, x22, x23, x24, x25, x26, x27, x28, x29, x30, x31, x32, x33, x34, x35, x36, x37, .int .i64 k, y39, .pointer (some ⟨BS, 0, none⟩), x41, x42, y43, x44, x45, x46, x47, x48, x49, x50, x51, x52, x53, x54, x55, x56, x57, x58, x59, x60, x61, x62, x63, x64, x65, x66, x67, x68, x69, x70, x71, x72, x73, x74, x75, x76, x77, x78, x79, x80, x81, x82, x83, x84, x85, x86, x87, x88, x89, x90, x91, x92, x93, x94, x95, x96, x97, x98, x99, x100, x101, x102, x103, x104, x105, x106, x107, x108, x109, x110, x111, x112, x113, x114, x115, x116, x117, x118, x119, x120, x121, x122, x123, x124, x125, x126, x127, x128, x129, x130, x131, x132, x133, x134, x135, x136, x137, x138, x139, x140, x141, x142, x143, x144, x145, x146, x147, x148, x149, x150, x151, x152, x153, x154, x155, x156, x157, x158, x159, x160, x161, x162, x163, x164, x165, x166, x167, x168, x169, x170, x171, x172, x173, x174, x175, x176, x177, x178, x179, x180, x181, x182, x183, x184, x185, x186, x187, x188, x189, x190, x191, x192, x193, x194, x195, x196, x197, x198, x199, x200, x201, x202, x203, x204, x205, x206, x207, x208, x209, x210, x211, x212, x213, x214, x215, x216, x217, x218, x219, x220, x221, x222, x223, x224, x225, x226, x227, x228, x229, x230, x231, x232, x233, x234, x235, x236, x237, x238, x239, x240, x241, x242, x243, x244, x245, x246, x247, x248, x249, x250, x251, x252, x253, x254, x255, x256, x257, x258, x259, x260, x261, x262, x263, x264, x265, x266, x267, .slice lp n lc, .int .i64 n, y270, y271, y272, y273, y274, y275, y276, y277, y278, y279, y280, y281, y282, y283, y284, y285, y286, y287, y288, y289, y290, x291, x292, x293, x294, x295, x296, x297, x298, x299, x300, x301, x302, x303, x304, x305, x306, x307, x308, x309, x310, x311, x312, x313, x314, x315, x316, x317, x318, x319, x320, x321, x322, x323, x324, x325, x326, x327, x328, x329, x330, x331, x332, x333, x334, x335, x336, x337, x338, x339, x340, x341, x342, x343, x344, x345, x346, x347, x348, x349, x350, x351, x352, x353, x354, x355, x356, x357, x358, x359, x360, x361, x362, x363, x364, x365, x366, x367, x368, x369, x370, x371, x372, x373, x374, x375, x376, x377, x378, x379, x380, x381, x382, x383, x384, x385, x386, x387, x388, x389, x390, x391, x392, x393, x394, x395, x396, x397, x398, x399], []⟩ wc) :
    Code.wp Yba.prog (loopIn (codeAt Yba.f4 56)) (Exit.inBlock (blkNo (codeAt Yba.f4 56)) Q) ⟨#[x0, x1, x2, x3, x4, x5, x6, x7, x8, x9, x10, x11, x12, x13, x14, x15, x16, x17, x18, x19, x20, x21, x22, x23, x24, x25, x26, x27, x28, x29, x30, x31, x32, x33, x34, x35, x36, x37, .int .i64 k, .bool o.isSome, .pointer (some ⟨BS, 0, none⟩), x41, x42, x43, x44, x45, x46, x47, x48, x49, x50, x51, x52, x53, x54, x55, x56, x57, x58, x59, x60, x61, x62, x63, x64, x65, x66, x67, x68, x69, x70, x71, x72, x73, x74, x75, x76, x77, x78, x79, x80, x81, x82, x83, x84, x85, x86, x87, x88, x89, x90, x91, x92, x93, x94, x95, x96, x97, x98, x99, x100, x101, x102, x103, x104, x105, x106, x107, x108, x109, x110, x111, x112, x113, x114, x115, x116, x117, x118, x119, x120, x121, x122, x123, x124, x125, x126, x127, x128, x129, x130, x131, x132, x133, x134, x135, x136, x137, x138, x139, x140, x141, x142, x143, x144, x145, x146, x147, x148, x149, x150, x151, x152, x153, x154, x155, x156, x157, x158, x159, x160, x161, x162, x163, x164, x165, x166, x167, x168, x169, x170, x171, x172, x173, x174, x175, x176, x177, x178, x179, x180, x181, x182, x183, x184, x185, x186, x187, x188, x189, x190, x191, x192, x193, x194, x195, x196, x197, x198, x199, x200, x201, x202, x203, x204, x205, x206, x207, x208, x209, x210, x211, x212, x213, x214, x215, x216, x217, x218, x219, x220, x221, x222, x223, x224, x225, x226, x227, x228, x229, x230, x231, x232, x233, x234, x235, x236, x237, x238, x239, x240, x241, x242, x243, x244, x245, x246, x247, x248, x249, x250, x251, x252, x253, x254, x255, x256, x257, x258, x259, x260, x261, x262, x263, x264, x265, x266, x267, .slice lp n lc, .int .i64 n, .int .i64 0, x271, x272, x273, x274, x275, x276, x277, x278, x279, x280, x281, x282, x283, x284, x285, x286, x287, x288, x289, x290, x291, x292, x293, x294, x295, x296, x297, x298, x299, x300, x301, x302, x303, x304, x305, x306, x307, x308, x309, x310, x311, x312, x313, x314, x315, x316, x317, x318, x319, x320, x321, x322, x323, x324, x325, x326, x327, x328, x329, x330, x331, x332, x333, x334, x335, x336, x337, x338, x339, x340, x341, x342, x343, x344, x345, x346, x347, x348, x349, x350, x351, x352, x353, x354, x355, x356, x357, x358, x359, x360, x361, x362, x363, x364, x365, x366, x367, x368, x369, x370, x371, x372, x373, x374, x375, x376, x377, x378, x379, x380, x381, x382, x383, x384, x385, x386, x387, x388, x389, x390, x391, x392, x393, x394, x395, x396, x397, x398, x399], []⟩ W := by
  have HK : Hid (∀ (wc : World) (y39 y43 y270 y271 y272 y273 y274 y275 y276 y277 y278 y279 y280 y281 y282 y283 y284 y285 y286 y287 y288 y289 y290 : Value), y39 = .bool (bestTo k o f n).isSome ∧ Cells wc BS 3 (asC (fun _ => bv (bestTo k o f n))) ∧ Keeps (fun b => b = BS) W wc → Q .normal ⟨#[x0, x1, x2, x3, x4, x5, x6, x7, x8, x9, x10, x11, x12, x13, x14, x15, x16, x17, x18, x19, x20, x21, x22, x23, x24, x25, x26, x27, x28, x29, x30, x31, x32, x33, x34, x35, x36, x37, .int .i64 k, y39, .pointer (some ⟨BS, 0, none⟩), x41, x42, y43, x44, x45, x46, x47, x48, x49, x50, x51, x52, x53, x54, x55, x56, x57, x58, x59, x60, x61, x62, x63, x64, x65, x66, x67, x68, x69, x70, x71, x72, x73, x74, x75, x76, x77, x78, x79, x80, x81, x82, x83, x84, x85, x86, x87, x88, x89, x90, x91, x92, x93, x94, x95, x96, x97, x98, x99, x100, x101, x102, x103, x104, x105, x106, x107, x108, x109, x110, x111, x112, x113, x114, x115, x116, x117, x118, x119, x120, x121, x122, x123, x124, x125, x126, x127, x128, x129, x130, x131, x132, x133, x134, x135, x136, x137, x138, x139, x140, x141, x142, x143, x144, x145, x146, x147, x148, x149, x150, x151, x152, x153, x154, x155, x156, x157, x158, x159, x160, x161, x162, x163, x164, x165, x166, x167, x168, x169, x170, x171, x172, x173, x174, x175, x176, x177, x178, x179, x180, x181, x182, x183, x184, x185, x186, x187, x188, x189, x190, x191, x192, x193, x194, x195, x196, x197, x198, x199, x200, x201, x202, x203, x204, x205, x206, x207, x208, x209, x210, x211, x212, x213, x214, x215, x216, x217, x218, x219, x220, x221, x222, x223, x224, x225, x226, x227, x228, x229, x230, x231, x232, x233, x234, x235, x236, x237, x238, x239, x240, x241, x242, x243, x244, x245, x246, x247, x248, x249, x250, x251, x252, x253, x254, x255, x256, x257, x258, x259, x260, x261, x262, x263, x264, x265, x266, x267, .slice lp n lc, .int .i64 n, y270, y271, y272, y273, y274, y275, y276, y277, y278, y279, y280, y281, y282, y283, y284, y285, y286, y287, y288, y289, y290, x291, x292, x293, x294, x295, x296, x297, x298, x299, x300, x301, x302, x303, x304, x305, x306, x307, x308, x309, x310, x311, x312, x313, x314, x315, x316, x317, x318, x319, x320, x321, x322, x323, x324, x325, x326, x327, x328, x329, x330, x331, x332, x333, x334, x335, x336, x337, x338, x339, x340, x341, x342, x343, x344, x345, x346, x347, x348, x349, x350, x351, x352, x353, x354, x355, x356, x357, x358, x359, x360, x361, x362, x363, x364, x365, x366, x367, x368, x369, x370, x371, x372, x373, x374, x375, x376, x377, x378, x379, x380, x381, x382, x383, x384, x385, x386, x387, x388, x389, x390, x391, x392, x393, x394, x395, x396, x397, x398, x399], []⟩ wc) := hK
  clear hK
  conv => arg 2; whnf
  conv => arg 3; arg 1; whnf
  conv => arg 4; dsimp only
  have HM : Hid ((0 < n → ∃ M, lp = some ⟨M, 0, none⟩ ∧ ¬ M = BS ∧ ∀ i, i < n * 3 → W.cell? ⟨M, i, none⟩ = some (asC f i)) ∧ Cells W BS 3 (asC (fun _ => bv o))) := ⟨hM, hC⟩
  clear hM hC
  go_loopw [39, 270] (fun s x wr => ∃ j : Nat, j ≤ n ∧ x = .int .i64 j ∧ s = .bool (bestTo k o f j).isSome ∧ Cells wr BS 3 (asC (fun _ => bv (bestTo k o f j))) ∧ Keeps (fun b => b = BS) W wr) (fun _ x _ => n - (intOf x).toNat)
  case atStart => exact ⟨0, Nat.zero_le _, rfl, rfl, HM.out.2, Keeps.refl _ _⟩
  case round =>
    obtain ⟨j, hj, rfl, rfl, hC, hK⟩ := hrel
    by_cases hlt : j < n
    · obtain ⟨M, e, hne, hc⟩ := HM.out.1 (by omega)
      cases e
      have c0 := hK.cell (p := ⟨M, j * 3, none⟩) hne (hc (j * 3) (by omega))
      have c1 := hK.cell (p := ⟨M, j * 3 + 1, none⟩) hne (hc (j * 3 + 1) (by omega))
      have c2 := hK.cell (p := ⟨M, j * 3 + 2, none⟩) hne (hc (j * 3 + 2) (by omega))
      rw [asC0] at c0
      rw [asC1] at c1
      rw [asC2] at c2
      have d0 : wr.cell? ⟨BS, 0, none⟩ = some (.int .i64 (bv (bestTo k o f j)).k) := (hC.cell 0 (by omega)).trans (by simp [asC])
      have d1 : wr.cell? ⟨BS, 1, none⟩ = some (.int .i64 (bv (bestTo k o f j)).v) := (hC.cell 1 (by omega)).trans (by simp [asC])
      have d2 : wr.cell? ⟨BS, 2, none⟩ = some (.int .i64 (bv (bestTo k o f j)).t) := (hC.cell 2 (by omega)).trans (by simp [asC])
      have f0 := hC.free 0 (by omega)
      have f1 := hC.free 1 (by omega)
      have f2 := hC.free 2 (by omega)
      have hBl := hC.lt
      have HB : Hid (bestTo k o f (j + 1) = bst k (bestTo k o f j) (f j)) := rfl
      have HC : Hid (Cells wr BS 3 (asC (fun _ => bv (bestTo k o f j))) ∧ Keeps (fun b => b = BS) W wr) := ⟨hC, hK⟩
      clear hc hC hK
      generalize f j = x at *
      obtain ⟨xk, xv, xt⟩ := x
      simp only at c0 c1 c2
      generalize bestTo k o f j = ob at *
      have i1 : (0 : Int) ≤ (j : Int) := by omega
      have i2 : (j : Int) < (n : Int) := by omega
      have e1 : ¬ wr.heap.size = BS := by omega
      have e2 : ¬ BS = wr.heap.size := by omega
      have hbT : Below wr.heap.size wr (wr.alloc (.cells #[.int .i64 xk, .int .i64 xv, .int .i64 xt] 67)) := bl_new (Below.refl _ _) _
      by_cases hxk : xk = k
      · subst hxk
        have g1 : ((xk : Int) == (xk : Int)) = true := by simp
        cases ob with
        | none =>
          have hb : bst xk none ⟨xk, xv, xt⟩ = some ⟨xk, xv, xt⟩ := by simp [bst]
          rw [hb] at HB
          simp only [bv, Option.getD_none, a0] at d0 d1 d2
          go_wp2_with fail
          go_roundw
          case rel =>
            refine ⟨j + 1, by omega, by go_num, by rw [HB.out]; rfl, ?_, ?_⟩
            · rw [HB.out]
              exact ((as_put (n := 1) (j := 0) HC.out.1 (by omega) ⟨xk, xv, xt⟩).congr (fun i hi => by simp only [asC, put, show i / 3 = 0 by omega, bv, Option.getD_some, if_true])).alloc _
            · exact (HC.out.2.trans (keep3 _ BS _ _ _ _ _ _)).alloc _
          case measure => simp [intOf]; omega
        | some y =>
          simp only [bv, Option.getD_some] at d0 d1 d2
          by_cases ht : y.t < xt
          · have g2 : decide (y.t < xt) = true := by simp [ht]
            have hb : bst xk (some y) ⟨xk, xv, xt⟩ = some ⟨xk, xv, xt⟩ := by simp [bst, ht]
            rw [hb] at HB
            go_wp2_with fail
            go_roundw
            case rel =>
              refine ⟨j + 1, by omega, by go_num, by rw [HB.out]; rfl, ?_, ?_⟩
              · rw [HB.out]
                exact ((as_put (n := 1) (j := 0) HC.out.1 (by omega) ⟨xk, xv, xt⟩).congr (fun i hi => by simp only [asC, put, show i / 3 = 0 by omega, bv, Option.getD_some, if_true])).alloc _
              · exact (HC.out.2.trans (keep3 _ BS _ _ _ _ _ _)).alloc _
            case measure => simp [intOf]; omega
          · have g2 : decide (y.t < xt) = false := by simp <;> omega
            have hb : bst xk (some y) ⟨xk, xv, xt⟩ = some y := by simp [bst, ht]
            rw [hb] at HB
            go_wp2_with fail
            go_roundw
            case rel => exact ⟨j + 1, by omega, by go_num, by rw [HB.out], by rw [HB.out]; exact HC.out.1.later hbT, HC.out.2.trans (Keeps.of_below hbT)⟩
            case measure => simp [intOf]; omega
      · have g1 : ((xk : Int) == (k : Int)) = false := by simp <;> omega
        have hb : bst k ob ⟨xk, xv, xt⟩ = ob := by simp [bst, hxk]
        rw [hb] at HB
        go_wp2_with fail
        go_roundw
        case rel => exact ⟨j + 1, by omega, by go_num, by rw [HB.out], by rw [HB.out]; exact HC.out.1.later hbT, HC.out.2.trans (Keeps.of_below hbT)⟩
        case measure => simp [intOf]; omega
    · obtain rfl : n = j := by omega
      go_wp2_with fail
      exact HK.out _ _ _ _ _ _ _ _ _ _ _ _ _ _ _ _ _ _ _ _ _ _ _ _ ⟨rfl, hC, hK⟩

end Go.Proofs.Ybulkclmc
