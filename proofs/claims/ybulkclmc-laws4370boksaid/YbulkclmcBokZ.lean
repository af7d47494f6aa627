import Derived.Test.YbulkclmcBokW
import Derived.Test.YbulkclmcBokY
namespace Go.Proofs.Ybulkclmc
open Go.RowKit

def toG {α : Type} (z : α) (f : Nat → α) (k i : Nat) : α := if i < k then f i else z
theorem toG_zero {α : Type} (z : α) (f : Nat → α) : toG z f 0 = fun _ => z := by funext i; simp [toG]
theorem toG_put {α : Type} (z : α) (f : Nat → α) (k : Nat) : put (toG z f k) k (f k) = toG z f (k + 1) := by
  funext i
  unfold toG put
  by_cases e : i = k
  · subst e; simp
  · have e2 : (i < k + 1) ↔ (i < k) := by omega
    simp [e, e2]

set_option maxRecDepth 1000000 in
set_option maxHeartbeats 4000000 in
theorem bok_25 (na LB : Nat) (x : Lb) (W : World) (hC : Cells W LB (x.n * 3) (asC (fun _ => a0))) (hx : LbIn W x) (hin : 0 < x.n → ∀ b o, x.p = some ⟨b, o, none⟩ → ¬ b = LB) (hn : x.n ≤ 300) (hna0 : 0 < na) (hna : na ≤ 6) (Q : Exit → Act → World → Prop)
    (x0 x1 x2 x3 x4 x5 x6 x7 x8 x9 x10 x11 x12 x13 x14 x15 x16 x17 x18 x19 x20 x22 x23 x24 x25 x26 x28 x29 x30 x31 x32 x33 x34 x35 x36 x37 x38 x39 x40 x41 x42 x43 x44 x45 x46 x47 x48 x49 x50 x51 x52 x53 x54 x55 x56 x57 x58 x59 x60 x61 x62 x63 x64 x65 x66 x67 x68 x69 x70 x71 x72 x73 x74 x75 x76 x77 x78 x79 x80 x81 x82 x83 x84 x85 x86 x87 x88 x89 x90 x91 x92 x93 x94 x95 x96 x97 x98 x99 x100 x101 x102 x103 x104 x105 x106 x107 x108 x109 x110 x111 x112 x113 x114 x115 x116 x117 x118 x119 x120 x121 x125 x126 x127 x128 x129 x130 x131 x132 x133 x134 x135 x136 x137 x138 x139 x140 x141 x142 x143 x144 x145 x146 x147 x148 x149 x150 x151 x152 x153 x154 x155 x156 x157 x158 x159 x160 x161 x162 x163 x164 x165 x166 x167 x168 x169 x170 x171 x172 x173 x174 x175 x176 x177 x178 x179 x180 x181 x182 x183 x184 x185 x186 x187 x188 x189 x190 x191 x192 x193 x194 x195 x196 x197 x198 x199 x200 x201 x202 x203 x204 x205 x206 x207 x208 x209 x210 x211 x212 x213 x214 x215 x216 x217 x218 x219 x220 x221 x222 x223 x224 x225 x226 x227 x228 x229 x230 x231 x232 x233 x234 x235 x236 x237 x238 x239 x240 x241 x242 x243 x244 x245 x246 x247 x248 x249 x250 x251 x252 x253 x254 x255 x256 x257 x258 x259 x260 x261 x262 x263 x264 x265 x266 x267 x268 x269 x270 x271 x272 x273 x274 x275 x276 x277 x278 x279 x280 x281 x282 x283 x284 x285 x286 x287 x288 x289 x290 x291 x292 x293 x294 x295 x296 x297 x298 x299 x300 x301 x302 x303 x304 x305 x306 x307 x308 x309 x310 x311 x312 x313 x314 x315 x316 x317 x318 x319 x320 x321 x322 x323 x324 x325 x326 x327 x328 x329 x330 x331 x332 x333 x334 x335 x336 x337 x338 x339 x340 x341 x342 x343 x344 x345 x346 x347 x348 x349 x350 x351 x352 x353 x354 x355 x356 x357 x358 x359 x360 x361 x362 x363 x364 x365 x366 x367 x368 x369 x370 x371 x372 x373 x374 x375 x376 x377 x378 x379 x380 x381 x382 x383 x384 x385 x386 x387 x388 x389 x390 x391 x392 x393 x394 x395 x396 x397 x398 x399 : Value) (hK : ∀ (wc : World) (y28 y29 y124 y125 y126 y127 y128 y129 y130 y131 y132 y133 y134 y135 y136 y137 y138 y139 y140 y141 y142 : Value), Cells wc LB (x.n * 3) (asC (x.as na)) ∧ Keeps (fun b => b = LB) W wc → Q .normal ⟨#[x0, x1, x2, x3, x4, x5, x6, x7, x8, x9, x10, x11, x12, x13, x14, x15, x16, x17, x18, x19, x20, .int .i64 na, x22, x23, x24, x25, x26, .slice (some ⟨LB, 0, none⟩) x.n x.n, y28, y29, x30, x31, x32, x33, x34, x35, x36, x37, x38, x39, x40, x41, x42, x43, x44, x45, x46, x47, x48, x49, x50, x51, x52, x53, x54, x55, x56, x57, x58, x59, x60, x61, x62, x63, x64, x65, x66, x67, x68, x69, x70, x71, x72, x73, x74, x75, x76, x77, x78, x79, x80, x81, x82, x83, x84, x85, x86, x87, x88, x89, x90, x91, x92, x93, x94, x95, x96, x97, x98, x99, x100, x101, x102, x103, x104, x105, x106, x107, x108, x109, x110, x111, x112, x113, x114, x115, x116, x117, x118, x119, x120, x121, x.val, .int .i64 x.n, y124, y125, y126, y127, y128, y129, y130, y131, y132, y133, y134, y135, y136, y137, y138, y139, y140, y141, y142, x143, x144, x145, x146, x147, x148, x149, x150, x151, x152, x153, x154, x155, x156, x157, x158, x159, x160, x161, x162, x163, x164, x165, x166, x167, x168, x169, x170, x171, x172, x173, x174, x175, x176, x177, x178, x179, x180, x181, x182, x183, x184, x185, x186, x187, x188, x189, x190, x191, x192, x193, x194, x195, x196, x197, x198, x199, x200, x201, x202, x203, x204, x205, x206, x207, x208, x209, x210, x211, x212, x213, x214, x215, x216, x217, x218, x219, x220, x221, x222, x223, x224, x225, x226, x227, x228, x229, x230, x231, x232, x233, x234, x235, x236, x237, x238, x239, x240, x241, x242, x243, x244, x245, x246, x247, x248, x249, x250, x251, x252, x253, x254, x255, x256, x257, x258, x259, x260, x261, x262, x263, x264, x265, x266, x267, x268, x269, x270, x271, x272, x273, x274, x275, x276, x277, x278, x279, x280, x281, x282, x283, x284, x285, x286, x287, x288, x289, x290, x291, x292, x293, x294, x295, x296, x297, x298, x299, x300, x301, x302, x303, x304, x305, x306, x307, x308, x309, x310, x311, x312, x313, x314, x315, x316, x317, x318, x319, x320, x321, x322, x323, x324, x325, x326, x327, x328, x329, x330, x331, x332, x333, x334, x335, x336, x337, x338, x339, x340, x341, x342, x343, x344, x345, x346, x347, x348, x349, x350, x351, x352, x353, x354, x355, x356, x357, x358, x359, x360, x361, x362, x363, x364, x365, x366, x367, x368, x369, x370, x371, x372, x373, x374, x375, x376, x377, x378, x379, x380, x381, x382, x383, x384, x385, x386, x387, x388, x389, x390, x391, x392, x393, x394, x395, x396, x397, x398, x399], []⟩ wc) :
    Code.wp Yba.prog (loopIn (codeAt Yba.f4 25)) (Exit.inBlock (blkNo (codeAt Yba.f4 25)) Q) ⟨#[x0, x1, x2, x3, x4, x5, x6, x7, x8, x9, x10, x11, x12, x13, x14, x15, x16, x17, x18, x19, x20, .int .i64 na, x22, x23, x24, x25, x26, .slice (some ⟨LB, 0, none⟩) x.n x.n, x28, x29, x30, x31, x32, x33, x34, x35, x36, x37, x38, x39, x40, x41, x42, x43, x44, x45, x46, x47, x48, x49, x50, x51, x52, x53, x54, x55, x56, x57, x58, x59, x60, x61, x62, x63, x64, x65, x66, x67, x68, x69, x70, x71, x72, x73, x74, x75, x76, x77, x78, x79, x80, x81, x82, x83, x84, x85, x86, x87, x88, x89, x90, x91, x92, x93, x94, x95, x96, x97, x98, x99, x100, x101, x102, x103, x104, x105, x106, x107, x108, x109, x110, x111, x112, x113, x114, x115, x116, x117, x118, x119, x120, x121, x.val, .int .i64 x.n, .int .i64 0, x125, x126, x127, x128, x129, x130, x131, x132, x133, x134, x135, x136, x137, x138, x139, x140, x141, x142, x143, x144, x145, x146, x147, x148, x149, x150, x151, x152, x153, x154, x155, x156, x157, x158, x159, x160, x161, x162, x163, x164, x165, x166, x167, x168, x169, x170, x171, x172, x173, x174, x175, x176, x177, x178, x179, x180, x181, x182, x183, x184, x185, x186, x187, x188, x189, x190, x191, x192, x193, x194, x195, x196, x197, x198, x199, x200, x201, x202, x203, x204, x205, x206, x207, x208, x209, x210, x211, x212, x213, x214, x215, x216, x217, x218, x219, x220, x221, x222, x223, x224, x225, x226, x227, x228, x229, x230, x231, x232, x233, x234, x235, x236, x237, x238, x239, x240, x241, x242, x243, x244, x245, x246, x247, x248, x249, x250, x251, x252, x253, x254, x255, x256, x257, x258, x259, x260, x261, x262, x263, x264, x265, x266, x267, x268, x269, x270, x271, x272, x273, x274, x275, x276, x277, x278, x279, x280, x281, x282, x283, x284, x285, x286, x287, x288, x289, x290, x291, x292, x293, x294, x295, x296, x297, x298, x299, x300, x301, x302, x303, x304, x305, x306, x307, x308, x309, x310, x311, x312, x313, x314, x315, x316, x317, x318, x319, x320, x321, x322, x323, x324, x325, x326, x327, x328, x329, x330, x331, x332, x333, x334, x335, x336, x337, x338, x339, x340, x341, x342, x343, x344, x345, x346, x347, x348, x349, x350, x351, x352, x353, x354, x355, x356, x357, x358, x359, x360, x361, x362, x363, x364, x365, x366, x367, x368, x369, x370, x371, x372, x373, x374, x375, x376, x377, x378, x379, x380, x381, x382, x383, x384, x385, x386, x387, x388, x389, x390, x391, x392, x393, x394, x395, x396, x397, x398, x399], []⟩ W := by
  have HK : Hid (∀ (wc : World) (y28 y29 y124 y125 y126 y127 y128 y129 y130 y131 y132 y133 y134 y135 y136 y137 y138 y139 y140 y141 y142 : Value), Cells wc LB (x.n * 3) (asC (x.as na)) ∧ Keeps (fun b => b = LB) W wc → Q .normal ⟨#[x0, x1, x2, x3, x4, x5, x6, x7, x8, x9, x10, x11, x12, x13, x14, x15, x16, x17, x18, x19, x20, .int .i64 na, x22, x23, x24, x25, x26, .slice (some ⟨LB, 0, none⟩) x.n x.n, y28, y29, x30, x31, x32, x33, x34, x35, x36, x37, x38, x39, x40, x41, x42, x43, x44, x45, x46, x47, x48, x49, x50, x51, x52, x53, x54, x55, x56, x57, x58, x59, x60, x61, x62, x63, x64, x65, x66, x67, x68, x69, x70, x71, x72, x73, x74, x75, x76, x77, x78, x79, x80, x81, x82, x83, x84, x85, x86, x87, x88, x89, x90, x91, x92, x93, x94, x95, x96, x97, x98, x99, x100, x101, x102, x103, x104, x105, x106, x107, x108, x109, x110, x111, x112, x113, x114, x115, x116, x117, x118, x119, x120, x121, x.val, .int .i64 x.n, y124, y125, y126, y127, y128, y129, y130, y131, y132, y133, y134, y135, y136, y137, y138, y139, y140, y141, y142, x143, x144, x145, x146, x147, x148, x149, x150, x151, x152, x153, x154, x155, x156, x157, x158, x159, x160, x161, x162, x163, x164, x165, x166, x167, x168, x169, x170, x171, x172, x173, x174, x175, x176, x177, x178, x179, x180, x181, x182, x183, x184, x185, x186, x187, x188, x189, x190, x191, x192, x193, x194, x195, x196, x197, x198, x199, x200, x201, x202, x203, x204, x205, x206, x207, x208, x209, x210, x211, x212, x213, x214, x215, x216, x217, x218, x219, x220, x221, x222, x223, x224, x225, x226, x227, x228, x229, x230, x231, x232, x233, x234, x235, x236, x237, x238, x239, x240, x241, x242, x243, x244, x245, x246, x247, x248, x249, x250, x251, x252, x253, x254, x255, x256, x257, x258, x259, x260, x261, x262, x263, x264, x265, x266, x267, x268, x269, x270, x271, x272, x273, x274, x275, x276, x277, x278, x279, x280, x281, x282, x283, x284, x285, x286, x287, x288, x289, x290, x291, x292, x293, x294, x295, x296, x297, x298, x299, x300, x301, x302, x303, x304, x305, x306, x307, x308, x309, x310, x311, x312, x313, x314, x315, x316, x317, x318, x319, x320, x321, x322, x323, x324, x325, x326, x327, x328, x329, x330, x331, x332, x333, x334, x335, x336, x337, x338, x339, x340, x341, x342, x343, x344, x345, x346, x347, x348, x349, x350, x351, x352, x353, x354, x355, x356, x357, x358, x359, x360, x361, x362, x363, x364, x365, x366, x367, x368, x369, x370, x371, x372, x373, x374, x375, x376, x377, x378, x379, x380, x381, x382, x383, x384, x385, x386, x387, x388, x389, x390, x391, x392, x393, x394, x395, x396, x397, x398, x399], []⟩ wc) := hK
  clear hK
  conv => arg 2; whnf
  conv => arg 3; arg 1; whnf
  conv => arg 4; dsimp only
  obtain ⟨xp, xn, xc, xa, xv, xt⟩ := x
  simp only [Lb.val] at HK hC hin hn ⊢
  have HX : Hid (LbIn W ⟨xp, xn, xc, xa, xv, xt⟩ ∧ Cells W LB (xn * 3) (asC (fun _ => a0)) ∧ (0 < xn → ∀ b o, xp = some ⟨b, o, none⟩ → ¬ b = LB)) := ⟨hx, hC, hin⟩
  clear hx hC hin
  go_loopw [124] (fun s wr => ∃ j : Nat, j ≤ xn ∧ s = .int .i64 j ∧ Cells wr LB (xn * 3) (asC (toG a0 (Lb.as ⟨xp, xn, xc, xa, xv, xt⟩ na) j)) ∧ Keeps (fun b => b = LB) W wr) (fun s _ => xn - (intOf s).toNat)
  case atStart => exact ⟨0, Nat.zero_le _, rfl, by rw [toG_zero]; exact HX.out.2.1, Keeps.refl _ _⟩
  case round =>
    obtain ⟨j, hj, rfl, hC, hK⟩ := hrel
    by_cases hlt : j < xn
    · obtain ⟨b, o, e, hc⟩ := HX.out.1.pos (show 0 < xn by omega)
      have hne := HX.out.2.2 (by omega) b o e
      cases e
      obtain ⟨c0, c1, c2⟩ := hc j hlt
      have c0' := hK.cell (p := ⟨b, o + j * 3, none⟩) hne c0
      have c1' := hK.cell (p := ⟨b, o + j * 3 + 1, none⟩) hne c1
      have c2' := hK.cell (p := ⟨b, o + j * 3 + 2, none⟩) hne c2
      simp only at c0' c1' c2'
      have ha : xa j ≤ 255 := HX.out.1.a j
      have d0 := hC.cell (j * 3) (by omega)
      have d1 := hC.cell (j * 3 + 1) (by omega)
      have d2 := hC.cell (j * 3 + 2) (by omega)
      have f0 := hC.free (j * 3) (by omega)
      have f1 := hC.free (j * 3 + 1) (by omega)
      have f2 := hC.free (j * 3 + 2) (by omega)
      have hLl := hC.lt
      have hmo : ((xa j : Nat) : Int) % (na : Int) = ((xa j % na : Nat) : Int) := by rw [Int.natCast_emod]
      have hyl : xa j % na < na := Nat.mod_lt _ hna0
      have HB : Hid (Lb.as ⟨some ⟨b, o, none⟩, xn, xc, xa, xv, xt⟩ na j = ⟨xa j % na, xv j, xt j⟩) := rfl
      have HC : Hid (Cells wr LB (xn * 3) (asC (toG a0 (Lb.as ⟨some ⟨b, o, none⟩, xn, xc, xa, xv, xt⟩ na) j)) ∧ Keeps (fun b => b = LB) W wr) := ⟨hC, hK⟩
      have e1 : ¬ wr.heap.size = LB := by omega
      have e2 : ¬ LB = wr.heap.size := by omega
      have i1 : (0 : Int) ≤ (j : Int) := by omega
      have i2 : (j : Int) < (xn : Int) := by omega
      have hnz : ¬ (na : Int) = 0 := by omega
      have hnz' : ((na : Int) == 0) = false := by simp; omega
      have hnz2 : ¬ na = 0 := by omega
      clear hc c0 c1 c2 hC hK
      generalize xa j = ya at *
      generalize xv j = yv at *
      generalize xt j = yt at *
      generalize ya % na = yr at *
      go_upto_region 27 with fail
      have hbT : Below wr.heap.size wr (wr.alloc (.cells #[.int .u8 ya, .int .i64 yv, .int .i64 yt] 74)) := bl_new (Below.refl _ _) _
      have t0 : (wr.alloc (.cells #[.int .u8 ya, .int .i64 yv, .int .i64 yt] 74)).cell? ⟨wr.heap.size, 0, none⟩ = some (.int .u8 ya) := World.cell?_alloc_at _ _ _ 0 rfl
      have t1 : (wr.alloc (.cells #[.int .u8 ya, .int .i64 yv, .int .i64 yt] 74)).cell? ⟨wr.heap.size, 1, none⟩ = some (.int .i64 yv) := World.cell?_alloc_at _ _ _ 1 rfl
      have t2 : (wr.alloc (.cells #[.int .u8 ya, .int .i64 yv, .int .i64 yt] 74)).cell? ⟨wr.heap.size, 2, none⟩ = some (.int .i64 yt) := World.cell?_alloc_at _ _ _ 2 rfl
      have d0' := cell_later hbT d0
      have d1' := cell_later hbT d1
      have d2' := cell_later hbT d2
      have f0' := (hbT.frozen (p := ⟨LB, j * 3, none⟩) hLl).trans f0
      have f1' := (hbT.frozen (p := ⟨LB, j * 3 + 1, none⟩) hLl).trans f1
      have f2' := (hbT.frozen (p := ⟨LB, j * 3 + 2, none⟩) hLl).trans f2
      have HT : Hid (Cells (((( wr.alloc (.cells #[.int .u8 ya, .int .i64 yv, .int .i64 yt] 74)).setCell ⟨LB, j * 3, none⟩ (.int .i64 yr)).setCell ⟨LB, j * 3 + 1, none⟩ (.int .i64 yv)).setCell ⟨LB, j * 3 + 2, none⟩ (.int .i64 yt)) LB (xn * 3) (asC (toG a0 (Lb.as ⟨some ⟨b, o, none⟩, xn, xc, xa, xv, xt⟩ na) (j + 1))) ∧ Keeps (fun b => b = LB) W (((( wr.alloc (.cells #[.int .u8 ya, .int .i64 yv, .int .i64 yt] 74)).setCell ⟨LB, j * 3, none⟩ (.int .i64 yr)).setCell ⟨LB, j * 3 + 1, none⟩ (.int .i64 yv)).setCell ⟨LB, j * 3 + 2, none⟩ (.int .i64 yt))) := by
        refine ⟨?_, (HC.out.2.trans (Keeps.of_below hbT)).trans (keep3 _ LB _ _ _ _ _ _)⟩
        rw [← toG_put, HB.out]
        exact as_put (HC.out.1.later hbT) hlt ⟨yr, yv, yt⟩
      clear c0' c1' c2' d0 d1 d2 f0 f1 f2 hbT
      generalize wr.alloc (.cells #[.int .u8 ya, .int .i64 yv, .int .i64 yt] 74) = T at *
      go_region_held3 (fun w' => w'.cell? ⟨wr.heap.size, 0, none⟩ = some (.int .u8 ya) ∧ w'.cell? ⟨wr.heap.size, 1, none⟩ = some (.int .i64 yv) ∧ w'.cell? ⟨wr.heap.size, 2, none⟩ = some (.int .i64 yt)) (go_keep) (fail)
      go_wp2_with fail
      go_roundw
      case rel =>
        refine ⟨j + 1, by omega, by go_num, ?_, ?_⟩
        · rw [hmo]; exact HT.out.1.drew
        · rw [hmo]; exact HT.out.2.drew
      case measure => simp [intOf]; omega
    · obtain rfl : xn = j := by omega
      go_wp2_with fail
      exact HK.out _ _ _ _ _ _ _ _ _ _ _ _ _ _ _ _ _ _ _ _ _ _ ⟨hC.congr (fun i hi => by simp only [asC, toG, show i / 3 < xn by omega, if_true]), hK⟩

end Go.Proofs.Ybulkclmc
