import Derived.Test.YbulkclmcBokY2
namespace Go.Proofs.Ybulkclmc
open Go.RowKit

/-- what the law wants, behind p places of the order -/
structure WantI (rk ord : Nat → Nat) (O : Nat → Option As) (g : Nat → As) (n p : Nat) : Prop where
  s : SortedTo rk g n
  lt : ∀ i, i < n → rk (g i).k < p
  mem : ∀ i, i < n → ∃ q, q < p ∧ O (ord q) = some (g i)
  all : ∀ q, q < p → ∀ y, O (ord q) = some y → ∃ i, i < n ∧ g i = y
  le : n ≤ p

theorem WantI.none {rk ord : Nat → Nat} {O : Nat → Option As} {g : Nat → As} {n p : Nat} (h : WantI rk ord O g n p) (ho : O (ord p) = Option.none) : WantI rk ord O g n (p + 1) := by
  refine ⟨h.s, fun i hi => Nat.lt_succ_of_lt (h.lt i hi), fun i hi => ?_, fun q hq y hy => ?_, Nat.le_succ_of_le h.le⟩
  · obtain ⟨q, hq, e⟩ := h.mem i hi
    exact ⟨q, by omega, e⟩
  · by_cases e : q = p
    · rw [e, ho] at hy; cases hy
    · exact h.all q (by omega) y hy

theorem WantI.some {rk ord : Nat → Nat} {O : Nat → Option As} {g : Nat → As} {n p : Nat} (h : WantI rk ord O g n p) (y : As) (ho : O (ord p) = Option.some y) (hy : rk y.k = p) : WantI rk ord O (put g n y) (n + 1) (p + 1) := by
  refine ⟨fun i j hij hj => ?_, fun i hi => ?_, fun i hi => ?_, fun q hq z hz => ?_, Nat.succ_le_succ h.le⟩
  · by_cases e : j = n
    · rw [e, put_same, put_other g n y (by omega), hy]
      exact h.lt i (by omega)
    · rw [put_other g n y e, put_other g n y (by omega)]
      exact h.s i j hij (by omega)
  · by_cases e : i = n
    · rw [e, put_same, hy]; omega
    · rw [put_other g n y e]
      have := h.lt i (by omega)
      omega
  · by_cases e : i = n
    · rw [e, put_same]; exact ⟨p, by omega, ho⟩
    · rw [put_other g n y e]
      obtain ⟨q, hq, e2⟩ := h.mem i (by omega)
      exact ⟨q, by omega, e2⟩
  · by_cases e : q = p
    · rw [e, ho] at hz
      cases hz
      exact ⟨n, by omega, put_same g n y⟩
    · obtain ⟨i, hi, e2⟩ := h.all q (by omega) z hz
      exact ⟨i, by omega, by rw [put_other g n y (by omega)]; exact e2⟩

set_option maxRecDepth 1000000 in
set_option maxHeartbeats 4000000 in
theorem bok_46 (ST m na OR OA : Nat) (rk ord : Nat → Nat) (has : Nat → Bool) (LP : Nat → Option Addr) (LN LC : Nat → Nat) (f : Nat → Nat → As) (W : World) (hS : StoR ST m has LP LN LC f W) (o0 : W.cell? ⟨OR, 0, none⟩ = some (.slice (some ⟨OA, 0, none⟩) na na)) (ho : ∀ p, p < na → W.cell? ⟨OA, p, none⟩ = some (.int .i64 (ord p))) (hr : ∀ p, p < na → ord p < na ∧ rk (ord p) = p) (hm : m ≤ 301) (hna : na ≤ 6) (Q : Exit → Act → World → Prop)
    (x0 x1 x2 x3 x4 x5 x6 x7 x8 x9 x10 x11 x12 x13 x14 x15 x16 x17 x18 x19 x20 x23 x25 x26 x27 x28 x29 x31 x32 x33 x34 x35 x38 x39 x40 x41 x42 x43 x44 x45 x46 x47 x48 x49 x50 x51 x52 x53 x54 x55 x56 x57 x58 x59 x60 x61 x62 x63 x64 x65 x66 x67 x68 x69 x70 x71 x72 x73 x74 x75 x76 x77 x78 x79 x80 x81 x82 x83 x84 x85 x86 x87 x88 x89 x90 x91 x92 x93 x94 x95 x96 x97 x98 x99 x100 x101 x102 x103 x104 x105 x106 x107 x108 x109 x110 x111 x112 x113 x114 x115 x116 x117 x118 x119 x120 x121 x122 x123 x124 x125 x126 x127 x128 x129 x130 x131 x132 x133 x134 x135 x136 x137 x138 x139 x140 x141 x142 x143 x144 x145 x146 x147 x148 x149 x150 x151 x152 x153 x154 x155 x156 x157 x158 x159 x160 x161 x162 x163 x164 x165 x166 x167 x168 x169 x170 x171 x172 x173 x174 x175 x176 x177 x178 x179 x180 x181 x182 x183 x184 x185 x186 x187 x188 x189 x190 x191 x192 x193 x194 x195 x196 x197 x198 x199 x200 x201 x202 x203 x204 x205 x206 x207 x208 x209 x210 x211 x212 x213 x214 x215 x216 x217 x218 x219 x220 x221 x222 x223 x224 x225 x226 x227 x228 x229 x230 x231 x232 x233 x234 x235 x236 x237 x238 x239 x240 x241 x242 x243 x244 x245 x246 x247 x248 x249 x250 x251 x252 x253 x254 x255 x256 x257 x258 x259 x260 x261 x262 x263 x264 x265 x266 x267 x268 x269 x270 x271 x272 x273 x274 x275 x276 x277 x278 x279 x280 x281 x282 x283 x284 x285 x286 x287 x288 x289 x290 x291 x292 x293 x294 x295 x296 x297 x298 x299 x300 x301 x302 x303 x304 x305 x306 x307 x308 x309 x310 x311 x312 x313 x314 x315 x316 x317 x318 x319 x320 x321 x322 x323 x324 x325 x326 x327 x328 x329 x330 x331 x332 x333 x334 x335 x336 x337 x338 x339 x340 x341 x342 x343 x344 x345 x346 x347 x348 x349 x350 x351 x352 x353 x354 x355 x356 x357 x358 x359 x360 x361 x362 x363 x364 x365 x366 x367 x368 x369 x370 x371 x372 x373 x374 x375 x376 x377 x378 x379 x380 x381 x382 x383 x384 x385 x386 x387 x388 x389 x390 x391 x392 x393 x394 x395 x396 x397 x398 x399 : Value) (hK : ∀ (wc : World) (y36 y37 y38 y39 y40 y41 y43 y241 y242 y243 y244 y245 y246 y247 y248 y249 y250 y251 y252 y253 y254 y255 y256 y257 y258 y259 y260 y261 y262 y263 y264 y265 y266 y267 y268 y269 y270 y271 y272 y273 y274 y275 y276 y277 y278 y279 y280 y281 y282 y283 y284 y285 y286 y287 y288 y289 y290 y291 y292 y293 y294 y295 : Value), (∃ sp n sc g, y36 = .slice sp n sc ∧ RowA wc W.heap.size (.slice sp n sc) g n ∧ WantI rk ord (fun k => bestAll k has LN f m) g n na) ∧ Below W.heap.size W wc → Q .normal ⟨#[x0, x1, x2, x3, x4, x5, x6, x7, x8, x9, x10, x11, x12, x13, x14, x15, x16, x17, x18, x19, x20, .int .i64 na, .int .i64 m, x23, .slice (some ⟨ST, 0, none⟩) m m, x25, x26, x27, x28, x29, .pointer (some ⟨OR, 0, none⟩), x31, x32, x33, x34, x35, y36, y37, y38, y39, y40, y41, x42, y43, x44, x45, x46, x47, x48, x49, x50, x51, x52, x53, x54, x55, x56, x57, x58, x59, x60, x61, x62, x63, x64, x65, x66, x67, x68, x69, x70, x71, x72, x73, x74, x75, x76, x77, x78, x79, x80, x81, x82, x83, x84, x85, x86, x87, x88, x89, x90, x91, x92, x93, x94, x95, x96, x97, x98, x99, x100, x101, x102, x103, x104, x105, x106, x107, x108, x109, x110, x111, x112, x113, x114, x115, x116, x117, x118, x119, x120, x121, x122, x123, x124, x125, x126, x127, x128, x129, x130, x131, x132, x133, x134, x135, x136, x137, x138, x139, x140, x141, x142, x143, x144, x145, x146, x147, x148, x149, x150, x151, x152, x153, x154, x155, x156, x157, x158, x159, x160, x161, x162, x163, x164, x165, x166, x167, x168, x169, x170, x171, x172, x173, x174, x175, x176, x177, x178, x179, x180, x181, x182, x183, x184, x185, x186, x187, x188, x189, x190, x191, x192, x193, x194, x195, x196, x197, x198, x199, x200, x201, x202, x203, x204, x205, x206, x207, x208, x209, x210, x211, x212, x213, x214, x215, x216, x217, x218, x219, x220, x221, x222, x223, x224, x225, x226, x227, x228, x229, x230, x231, x232, x233, x234, x235, x236, x237, x238, x239, x240, y241, y242, y243, y244, y245, y246, y247, y248, y249, y250, y251, y252, y253, y254, y255, y256, y257, y258, y259, y260, y261, y262, y263, y264, y265, y266, y267, y268, y269, y270, y271, y272, y273, y274, y275, y276, y277, y278, y279, y280, y281, y282, y283, y284, y285, y286, y287, y288, y289, y290, y291, y292, y293, y294, y295, x296, x297, x298, x299, x300, x301, x302, x303, x304, x305, x306, x307, x308, x309, x310, x311, x312, x313, x314, x315, x316, x317, x318, x319, x320, x321, x322, x323, x324, x325, x326, x327, x328, x329, x330, x331, x332, x333, x334, x335, x336, x337, x338, x339, x340, x341, x342, x343, x344, x345, x346, x347, x348, x349, x350, x351, x352, x353, x354, x355, x356, x357, x358, x359, x360, x361, x362, x363, x364, x365, x366, x367, x368, x369, x370, x371, x372, x373, x374, x375, x376, x377, x378, x379, x380, x381, x382, x383, x384, x385, x386, x387, x388, x389, x390, x391, x392, x393, x394, x395, x396, x397, x398, x399], []⟩ wc) :
    Code.wp Yba.prog (loopIn (codeAt Yba.f4 46)) (Exit.inBlock (blkNo (codeAt Yba.f4 46)) Q) ⟨#[x0, x1, x2, x3, x4, x5, x6, x7, x8, x9, x10, x11, x12, x13, x14, x15, x16, x17, x18, x19, x20, .int .i64 na, .int .i64 m, x23, .slice (some ⟨ST, 0, none⟩) m m, x25, x26, x27, x28, x29, .pointer (some ⟨OR, 0, none⟩), x31, x32, x33, x34, x35, .slice none 0 0, .int .i64 0, x38, x39, x40, x41, x42, x43, x44, x45, x46, x47, x48, x49, x50, x51, x52, x53, x54, x55, x56, x57, x58, x59, x60, x61, x62, x63, x64, x65, x66, x67, x68, x69, x70, x71, x72, x73, x74, x75, x76, x77, x78, x79, x80, x81, x82, x83, x84, x85, x86, x87, x88, x89, x90, x91, x92, x93, x94, x95, x96, x97, x98, x99, x100, x101, x102, x103, x104, x105, x106, x107, x108, x109, x110, x111, x112, x113, x114, x115, x116, x117, x118, x119, x120, x121, x122, x123, x124, x125, x126, x127, x128, x129, x130, x131, x132, x133, x134, x135, x136, x137, x138, x139, x140, x141, x142, x143, x144, x145, x146, x147, x148, x149, x150, x151, x152, x153, x154, x155, x156, x157, x158, x159, x160, x161, x162, x163, x164, x165, x166, x167, x168, x169, x170, x171, x172, x173, x174, x175, x176, x177, x178, x179, x180, x181, x182, x183, x184, x185, x186, x187, x188, x189, x190, x191, x192, x193, x194, x195, x196, x197, x198, x199, x200, x201, x202, x203, x204, x205, x206, x207, x208, x209, x210, x211, x212, x213, x214, x215, x216, x217, x218, x219, x220, x221, x222, x223, x224, x225, x226, x227, x228, x229, x230, x231, x232, x233, x234, x235, x236, x237, x238, x239, x240, x241, x242, x243, x244, x245, x246, x247, x248, x249, x250, x251, x252, x253, x254, x255, x256, x257, x258, x259, x260, x261, x262, x263, x264, x265, x266, x267, x268, x269, x270, x271, x272, x273, x274, x275, x276, x277, x278, x279, x280, x281, x282, x283, x284, x285, x286, x287, x288, x289, x290, x291, x292, x293, x294, x295, x296, x297, x298, x299, x300, x301, x302, x303, x304, x305, x306, x307, x308, x309, x310, x311, x312, x313, x314, x315, x316, x317, x318, x319, x320, x321, x322, x323, x324, x325, x326, x327, x328, x329, x330, x331, x332, x333, x334, x335, x336, x337, x338, x339, x340, x341, x342, x343, x344, x345, x346, x347, x348, x349, x350, x351, x352, x353, x354, x355, x356, x357, x358, x359, x360, x361, x362, x363, x364, x365, x366, x367, x368, x369, x370, x371, x372, x373, x374, x375, x376, x377, x378, x379, x380, x381, x382, x383, x384, x385, x386, x387, x388, x389, x390, x391, x392, x393, x394, x395, x396, x397, x398, x399], []⟩ W := by
  have HK : Hid (∀ (wc : World) (y36 y37 y38 y39 y40 y41 y43 y241 y242 y243 y244 y245 y246 y247 y248 y249 y250 y251 y252 y253 y254 y255 y256 y257 y258 y259 y260 y261 y262 y263 y264 y265 y266 y267 y268 y269 y270 y271 y272 y273 y274 y275 y276 y277 y278 y279 y280 y281 y282 y283 y284 y285 y286 y287 y288 y289 y290 y291 y292 y293 y294 y295 : Value), (∃ sp n sc g, y36 = .slice sp n sc ∧ RowA wc W.heap.size (.slice sp n sc) g n ∧ WantI rk ord (fun k => bestAll k has LN f m) g n na) ∧ Below W.heap.size W wc → Q .normal ⟨#[x0, x1, x2, x3, x4, x5, x6, x7, x8, x9, x10, x11, x12, x13, x14, x15, x16, x17, x18, x19, x20, .int .i64 na, .int .i64 m, x23, .slice (some ⟨ST, 0, none⟩) m m, x25, x26, x27, x28, x29, .pointer (some ⟨OR, 0, none⟩), x31, x32, x33, x34, x35, y36, y37, y38, y39, y40, y41, x42, y43, x44, x45, x46, x47, x48, x49, x50, x51, x52, x53, x54, x55, x56, x57, x58, x59, x60, x61, x62, x63, x64, x65, x66, x67, x68, x69, x70, x71, x72, x73, x74, x75, x76, x77, x78, x79, x80, x81, x82, x83, x84, x85, x86, x87, x88, x89, x90, x91, x92, x93, x94, x95, x96, x97, x98, x99, x100, x101, x102, x103, x104, x105, x106, x107, x108, x109, x110, x111, x112, x113, x114, x115, x116, x117, x118, x119, x120, x121, x122, x123, x124, x125, x126, x127, x128, x129, x130, x131, x132, x133, x134, x135, x136, x137, x138, x139, x140, x141, x142, x143, x144, x145, x146, x147, x148, x149, x150, x151, x152, x153, x154, x155, x156, x157, x158, x159, x160, x161, x162, x163, x164, x165, x166, x167, x168, x169, x170, x171, x172, x173, x174, x175, x176, x177, x178, x179, x180, x181, x182, x183, x184, x185, x186, x187, x188, x189, x190, x191, x192, x193, x194, x195, x196, x197, x198, x199, x200, x201, x202, x203, x204, x205, x206, x207, x208, x209, x210, x211, x212, x213, x214, x215, x216, x217, x218, x219, x220, x221, x222, x223, x224, x225, x226, x227, x228, x229, x230, x231, x232, x233, x234, x235, x236, x237, x238, x239, x240, y241, y242, y243, y244, y245, y246, y247, y248, y249, y250, y251, y252, y253, y254, y255, y256, y257, y258, y259, y260, y261, y262, y263, y264, y265, y266, y267, y268, y269, y270, y271, y272, y273, y274, y275, y276, y277, y278, y279, y280, y281, y282, y283, y284, y285, y286, y287, y288, y289, y290, y291, y292, y293, y294, y295, x296, x297, x298, x299, x300, x301, x302, x303, x304, x305, x306, x307, x308, x309, x310, x311, x312, x313, x314, x315, x316, x317, x318, x319, x320, x321, x322, x323, x324, x325, x326, x327, x328, x329, x330, x331, x332, x333, x334, x335, x336, x337, x338, x339, x340, x341, x342, x343, x344, x345, x346, x347, x348, x349, x350, x351, x352, x353, x354, x355, x356, x357, x358, x359, x360, x361, x362, x363, x364, x365, x366, x367, x368, x369, x370, x371, x372, x373, x374, x375, x376, x377, x378, x379, x380, x381, x382, x383, x384, x385, x386, x387, x388, x389, x390, x391, x392, x393, x394, x395, x396, x397, x398, x399], []⟩ wc) := hK
  clear hK
  conv => arg 2; whnf
  conv => arg 3; arg 1; whnf
  conv => arg 4; dsimp only
  obtain ⟨i67, hi67, hz0, hz1, hz2⟩ := info_parts Yba.info67b
  have HS : Hid (StoR ST m has LP LN LC f W ∧ (∀ p, p < na → W.cell? ⟨OA, p, none⟩ = some (.int .i64 (ord p))) ∧ ∀ p, p < na → ord p < na ∧ rk (ord p) = p) := ⟨hS, ho, hr⟩
  clear hS ho hr
  go_loopw [36, 37] (fun s x wr => ∃ p : Nat, p ≤ na ∧ x = .int .i64 p ∧ ∃ sp n sc g, s = .slice sp n sc ∧ RowA wr W.heap.size (.slice sp n sc) g n ∧ WantI rk ord (fun k => bestAll k has LN f m) g n p ∧ Below W.heap.size W wr) (fun _ x _ => na - (intOf x).toNat)
  case atStart => exact ⟨0, Nat.zero_le _, rfl, none, 0, 0, fun _ => a0, rfl, RowA.nil _ _ _, ⟨fun i j h1 h2 => by omega, fun i hi => by omega, fun i hi => by omega, fun q hq => by omega, Nat.le_refl _⟩, Below.refl _ _⟩
  case round =>
    obtain ⟨p, hp, rfl, sp, n, sc, g, rfl, hR, hW, hb⟩ := hrel
    by_cases hlt : p < na
    · have r0 := cell_later hb o0
      have r1 := cell_later hb (HS.out.2.1 p hlt)
      obtain ⟨hol, hrk⟩ := HS.out.2.2 p hlt
      have hnp := hW.le
      have i1 : (0 : Int) ≤ (p : Int) := by omega
      have i2 : (p : Int) < (na : Int) := by omega
      have HR : Hid (RowA wr W.heap.size (.slice sp n sc) g n ∧ WantI rk ord (fun k => bestAll k has LN f m) g n p ∧ Below W.heap.size W wr) := ⟨hR, hW, hb⟩
      have HO : Hid (∀ y, bestAll (ord p) has LN f m = some y → rk y.k = p) := fun y hy => by rw [bestAll_k m y hy]; exact hrk
      have hws := hb.size
      clear hR hW hb hrk
      generalize hop : ord p = kp at *
      have HP : Hid (ord p = kp) := hop
      clear hop
      go_wp2_with fail
      have hbT : Below wr.heap.size wr (wr.alloc (.cells #[.int .i64 0, .int .i64 0, .int .i64 0] 67)) := bl_new (Below.refl _ _) _
      have hCT : Cells (wr.alloc (.cells #[.int .i64 0, .int .i64 0, .int .i64 0] 67)) wr.heap.size 3 (asC (fun _ => a0)) := by
        refine ⟨fun i hi => ?_, fun i hi => World.frozen?_alloc_at _ _ _ i rfl, by simp⟩
        rw [World.cell?_alloc_at _ _ _ i rfl]
        have : i = 0 ∨ i = 1 ∨ i = 2 := by omega
        rcases this with rfl | rfl | rfl <;> simp [asC, a0]
      have hbW := bl_then hbT HR.out.2.2
      refine bok_52 ST m kp wr.heap.size W.heap.size has LP LN LC f W _ HS.out.1 hbW rfl hws hCT hm _ _ _ _ _ _ _ _ _ _ _ _ _ _ _ _ _ _ _ _ _ _ _ _ _ _ _ _ _ _ _ _ _ _ _ _ _ _ _ _ _ _ _ _ _ _ _ _ _ _ _ _ _ _ _ _ _ _ _ _ _ _ _ _ _ _ _ _ _ _ _ _ _ _ _ _ _ _ _ _ _ _ _ _ _ _ _ _ _ _ _ _ _ _ _ _ _ _ _ _ _ _ _ _ _ _ _ _ _ _ _ _ _ _ _ _ _ _ _ _ _ _ _ _ _ _ _ _ _ _ _ _ _ _ _ _ _ _ _ _ _ _ _ _ _ _ _ _ _ _ _ _ _ _ _ _ _ _ _ _ _ _ _ _ _ _ _ _ _ _ _ _ _ _ _ _ _ _ _ _ _ _ _ _ _ _ _ _ _ _ _ _ _ _ _ _ _ _ _ _ _ _ _ _ _ _ _ _ _ _ _ _ _ _ _ _ _ _ _ _ _ _ _ _ _ _ _ _ _ _ _ _ _ _ _ _ _ _ _ _ _ _ _ _ _ _ _ _ _ _ _ _ _ _ _ _ _ _ _ _ _ _ _ _ _ _ _ _ _ _ _ _ _ _ _ _ _ _ _ _ _ _ _ _ _ _ _ _ _ _ _ _ _ _ _ _ _ _ _ _ _ _ _ _ _ _ _ _ _ _ _ _ _ _ _ _ _ _ _ _ _ _ _ _ _ _ _ _ _ _ _ _ _ _ _ _ _ _ _ _ _ _ _ _ _ _ _ _ _ _ _ _ _ _ _ _ _ _ _ _ _ _ _ _ _ _ _ _ _ _ _ _ _ _ _ _ _ _ _ _ _ _ _ _ _ _ _ _ _ _ _ _ _ _ _ ?_
      rintro wc z39 _ _ _ _ _ _ _ _ _ _ _ _ _ _ _ _ _ _ _ _ _ _ _ _ _ _ _ _ _ _ _ _ _ _ _ _ _ _ _ _ ⟨rfl, hC3, hK3⟩
      have hbc : Below W.heap.size W wc := hbW.trans (hK3.below hbW.size (fun b e => by rw [e]; exact hws))
      have hRo := HR.out.1.own
      have hRc : RowA wc W.heap.size (.slice sp n sc) g n := (HR.out.1.later hbT).block (fun q hB hq ho => hK3.block q hq (fun e => by have := (hRo q ho).2; omega))
      have HQ : Hid (RowA wc W.heap.size (.slice sp n sc) g n ∧ Below W.heap.size W wc) := ⟨hRc, hbc⟩
      have c0 : wc.cell? ⟨wr.heap.size, 0, none⟩ = some (.int .i64 (bv (bestAll kp has LN f m)).k) := (hC3.cell 0 (by omega)).trans (by simp [asC])
      have c1 : wc.cell? ⟨wr.heap.size, 1, none⟩ = some (.int .i64 (bv (bestAll kp has LN f m)).v) := (hC3.cell 1 (by omega)).trans (by simp [asC])
      have c2 : wc.cell? ⟨wr.heap.size, 2, none⟩ = some (.int .i64 (bv (bestAll kp has LN f m)).t) := (hC3.cell 2 (by omega)).trans (by simp [asC])
      have hwcs := hbc.size
      clear hC3 hK3 hbc hRc hRo hCT
      have HOb : Hid (∀ (ob : Option As), bestAll kp has LN f m = ob → (fun k => bestAll k has LN f m) (ord p) = ob) := fun ob h => by rw [HP.out]; exact h
      cases hob : bestAll kp has LN f m with
      | none =>
        rw [hob] at c0 c1 c2
        go_wp2_with fail
        go_roundw
        case rel => exact ⟨p + 1, by omega, by go_num, sp, n, sc, g, rfl, HQ.out.1, HR.out.2.1.none (HOb.out _ hob), HQ.out.2⟩
        case measure => simp [intOf]; omega
      | some y =>
        rw [hob] at c0 c1 c2
        have hyr := HO.out y hob
        simp only [bv, Option.getD_some] at c0 c1 c2
        have hyo := HOb.out _ hob
        have HY : Hid (rk y.k = p ∧ (fun k => bestAll k has LN f m) (ord p) = some y) := ⟨hyr, hyo⟩
        clear hyr hyo
        obtain ⟨yk, yv, yt⟩ := y
        simp only at c0 c1 c2
        have hbU : Below wc.heap.size wc (wc.alloc (.cells #[.int .i64 yk, .int .i64 yv, .int .i64 yt] 67)) := bl_new (Below.refl _ _) _
        obtain ⟨xs, hown, hxs, _⟩ := HQ.out.1.later hbU
        have HX : Hid (xs.length = n * 3 ∧ ∀ i, i < n * 3 → xs[i]? = some (asC g i)) := ⟨hown.1, hxs⟩
        have HOwn : Hid ((wc.alloc (.cells #[.int .i64 yk, .int .i64 yv, .int .i64 yt] 67)).ownsRow W.heap.size 67 3 (.slice sp n sc) n xs) := hown
        have HN : Hid (∀ j u, [Value.int .i64 yk, Value.int .i64 yv, Value.int .i64 yt][j]? = some u → (wc.alloc (.cells #[.int .i64 yk, .int .i64 yv, .int .i64 yt] 67)).cell? ((⟨wc.heap.size, 0, none⟩ : Addr).add j) = some u) := news3 wc _ _ _ 67
        have HOne : Hid (∀ u ∈ [Value.int .i64 yk, Value.int .i64 yv, Value.int .i64 yt], u.oneCell' = true) := by
          intro u hu
          simp at hu
          rcases hu with rfl | rfl | rfl <;> rfl
        clear hown hxs
        have hmx : n + 1 ≤ maxLen := by unfold maxLen; omega
        have hby : (n + 1) * 24 ≤ 140737488355328 := by omega
        go_wp2_with (first | (at_builtin; refine wpList_append_lies _ rfl (.tmp 292) (.tmp 294) 42 rfl W.heap.size 67 i67 (.agg #[.int .i64 0, .int .i64 0, .int .i64 0]) 3 24 Yba.underlying42 hi67 hz0 hz1 hz2 rfl (by decide) (.slice sp n sc) n xs rfl HOwn.out ⟨wc.heap.size, 0, none⟩ 1 1 [.int .i64 yk, .int .i64 yv, .int .i64 yt] rfl rfl HN.out HOne.out (by decide) hmx hby (by simp; omega) (wc.heap.size + 1) (by simp) ?_; intro R2 cap2 w2 hown2 hgrow2 hlies hg2) | fail)
        go_roundw
        case rel =>
          have hkg := keeps_grown HOwn.out hgrow2
          exact ⟨p + 1, by omega, by go_num, some ⟨R2, 0, none⟩, n + 1, cap2, put g n ⟨yk, yv, yt⟩, rfl, RowA.grown ⟨yk, yv, yt⟩ hown2 HX.out.1 HX.out.2, HR.out.2.1.some ⟨yk, yv, yt⟩ HY.out.2 HY.out.1, (HQ.out.2.trans (hbU.mono hwcs)).trans (hkg.below (Nat.le_trans hwcs hbU.size) (fun b h => h))⟩
        case measure => simp [intOf]; omega
    · obtain rfl : na = p := by omega
      go_wp2_with fail
      exact HK.out _ _ _ _ _ _ _ _ _ _ _ _ _ _ _ _ _ _ _ _ _ _ _ _ _ _ _ _ _ _ _ _ _ _ _ _ _ _ _ _ _ _ _ _ _ _ _ _ _ _ _ _ _ _ _ _ _ _ _ _ _ _ _ ⟨⟨sp, n, sc, g, rfl, hR, hW⟩, hb⟩

end Go.Proofs.Ybulkclmc
