import Derived.Test.YbulkclmcBokZ
namespace Go.Proofs.Ybulkclmc
open Go.RowKit

/-- the stored nogoods' row, k of them laid -/
def stC (LB : Nat → Nat) (L : Nat → Lb) (has : Nat → Bool) (k q : Nat) : Value :=
  if q % 2 = 0 then (if q / 2 < k then .slice (some ⟨LB (q / 2), 0, none⟩) (L (q / 2)).n (L (q / 2)).n else .slice none 0 0) else .bool (decide (q / 2 < k) && has (q / 2))

theorem st_lay {w : World} {ST m k b : Nat} {LB : Nat → Nat} {L : Nat → Lb} {has : Nat → Bool} (h : Cells w ST (m * 2) (stC LB L has k)) (hk : k < m) :
    Cells ((w.setCell ⟨ST, k * 2, none⟩ (.slice (some ⟨b, 0, none⟩) (L k).n (L k).n)).setCell ⟨ST, k * 2 + 1, none⟩ (.bool (has k))) ST (m * 2) (stC (put LB k b) L has (k + 1)) := by
  refine ((h.set (j := k * 2) (by omega) _).set (j := k * 2 + 1) (by omega) _).congr fun i hi => ?_
  by_cases e : i = k * 2 + 1
  · subst e
    simp [stC, show (k * 2 + 1) / 2 = k by omega, show (k * 2 + 1) % 2 = 1 by omega]
  · by_cases e2 : i = k * 2
    · subst e2
      simp [stC, put, show k * 2 / 2 = k by omega]
    · have e3 : ¬ i / 2 = k := by omega
      have e4 : (i / 2 < k + 1) ↔ (i / 2 < k) := by omega
      simp [e, e2, stC, put, e3, e4]

theorem int_lay {w : World} {b m k : Nat} {f : Nat → Int} (h : Cells w b m (fun j => .int .i64 (toG 0 f k j))) (hk : k < m) {x : Int} (hx : x = f k) : Cells (w.setCell ⟨b, k, none⟩ (.int .i64 x)) b m (fun j => .int .i64 (toG 0 f (k + 1) j)) := by
  subst hx
  refine (h.set hk _).congr fun i hi => ?_
  rw [← toG_put]
  by_cases e : i = k
  · simp [e, put]
  · simp [e, put]
theorem int_lay2 {w : World} {b m k : Nat} {f : Nat → Int} {z : Value} (h : Cells w b m (fun j => if j = k then z else .int .i64 (toG 0 f k j))) (hk : k < m) {x : Int} (hx : x = f k) : Cells (w.setCell ⟨b, k, none⟩ (.int .i64 x)) b m (fun j => .int .i64 (toG 0 f (k + 1) j)) := by
  subst hx
  refine (h.set hk _).congr fun i hi => ?_
  rw [← toG_put]
  by_cases e : i = k
  · simp [e, put]
  · simp [e, put]
theorem int_stay {w : World} {b m k : Nat} {f : Nat → Int} {x : Int} (h : Cells w b m (fun j => if j = k then .int .i64 x else .int .i64 (toG 0 f k j))) (hx : x = f k) : Cells w b m (fun j => .int .i64 (toG 0 f (k + 1) j)) := by
  subst hx
  refine h.congr fun i hi => ?_
  rw [← toG_put]
  by_cases e : i = k
  · simp [e, put]
  · simp [e, put]
theorem bool_lay {w : World} {b m k : Nat} {f : Nat → Bool} (h : Cells w b m (fun j => .bool (toG false f k j))) (hk : k < m) {x : Bool} (hx : x = f k) : Cells (w.setCell ⟨b, k, none⟩ (.bool x)) b m (fun j => .bool (toG false f (k + 1) j)) := by
  subst hx
  refine (h.set hk _).congr fun i hi => ?_
  rw [← toG_put]
  by_cases e : i = k
  · simp [e, put]
  · simp [e, put]
theorem bool_skip {w : World} {b m k : Nat} {f : Nat → Bool} (h : Cells w b m (fun j => .bool (toG false f k j))) (hx : f k = false) : Cells w b m (fun j => .bool (toG false f (k + 1) j)) := by
  refine h.congr fun i hi => ?_
  unfold toG
  by_cases e : i = k
  · subst e; simp [hx]
  · have e2 : (i < k + 1) ↔ (i < k) := by omega
    simp [e2]

theorem keeps_made {S : Nat → Prop} {a b c : World} {l : Nat} (h : Keeps S a b) (k : Keeps (fun x => x = l) b c) (hl : a.heap.size ≤ l) : Keeps S a c :=
  ⟨k.os.trans h.os, k.tape.trans h.tape, k.output.trans h.output, Nat.le_trans h.size k.size, fun i hi hs => (k.block i (Nat.lt_of_lt_of_le hi h.size) (fun e => by omega)).trans (h.block i hi hs)⟩

/-- a slice as it comes in -/
structure SlB (w : World) (p : Option Addr) (n : Nat) (f : Nat → Value) : Prop where
  pos : 0 < n → ∃ b o, p = some ⟨b, o, none⟩ ∧ ∀ i, i < n → w.cell? ⟨b, o + i, none⟩ = some (f i)

/-- what the law's second loop has made -/
structure Mk (DB ST PB na m n5 i : Nat) (dv : Nat → Int) (pv : Nat → Bool) (LB : Nat → Nat) (L : Nat → Lb) (has : Nat → Bool) (W wr : World) : Prop where
  d : Cells wr DB m (fun j => .int .i64 (toG 0 dv i j))
  p : Cells wr PB m (fun j => .bool (toG false pv i j))
  s : Cells wr ST (m * 2) (stC LB L has (min i n5))
  l : ∀ j, j < i → j < n5 → W.heap.size ≤ LB j ∧ LB j < wr.heap.size ∧ ∀ q, q < (L j).n * 3 → wr.cell? ⟨LB j, q, none⟩ = some (asC ((L j).as na) q)
  kp : Keeps (fun b => b = DB ∨ b = ST ∨ b = PB) W wr

theorem Yba.info67c : (Yba.prog.info? 67).map (fun i => (i.zero, i.size, i.bytes)) = some (some (.agg #[.int .i64 0, .int .i64 0, .int .i64 0]), 3, 24) := by kernel_rfl

set_option maxRecDepth 1000000 in
set_option maxHeartbeats 4000000 in
theorem bok_15 (DB ST PB na m n4 c4 n5 c5 n6 c6 : Nat) (p4 p5 p6 : Option Addr) (dom dv : Nat → Int) (prn pv : Nat → Bool) (L : Nat → Lb) (has : Nat → Bool) (w W : World) (hmm : m = n5 + 1) (h5 : n5 ≤ 300) (h4 : n4 ≤ 9223372036854775807) (h6 : n6 ≤ 9223372036854775807) (hd : ∀ j, dv j = if j < n4 then dom j else (j : Int)) (hp : ∀ j, pv j = if j < n6 then prn j else false) (s4 : SlB w p4 n4 (fun i => .int .i64 (dom i))) (s6 : SlB w p6 n6 (fun i => .bool (prn i))) (hN : NgIn p5 n5 L has w) (hl : ∀ i, i < n5 → (L i).n ≤ 300) (hb : Below w.heap.size w W) (lD : w.heap.size ≤ DB) (lS : w.heap.size ≤ ST) (lP : w.heap.size ≤ PB) (nDS : ¬ DB = ST) (nDP : ¬ DB = PB) (nSP : ¬ ST = PB) (hM : Mk DB ST PB na m n5 0 dv pv (fun _ => 0) L has W W) (hDW : DB < W.heap.size) (hSW : ST < W.heap.size) (hPW : PB < W.heap.size) (hna0 : 0 < na) (hna : na ≤ 6) (Q : Exit → Act → World → Prop)
    (x0 x1 x2 x3 x7 x8 x9 x10 x11 x12 x13 x14 x15 x16 x17 x18 x19 x20 x27 x28 x29 x30 x31 x32 x33 x34 x35 x36 x37 x38 x39 x40 x41 x42 x43 x44 x45 x46 x47 x48 x49 x50 x51 x52 x53 x54 x55 x56 x57 x58 x59 x60 x61 x62 x63 x64 x65 x66 x67 x68 x69 x70 x71 x72 x73 x74 x75 x76 x77 x78 x79 x80 x81 x82 x83 x84 x85 x86 x87 x88 x89 x90 x91 x92 x93 x94 x95 x96 x97 x98 x99 x100 x101 x102 x103 x104 x105 x106 x107 x108 x109 x110 x111 x112 x113 x114 x115 x116 x117 x118 x119 x120 x121 x122 x123 x124 x125 x126 x127 x128 x129 x130 x131 x132 x133 x134 x135 x136 x137 x138 x139 x140 x141 x142 x143 x144 x145 x146 x147 x148 x149 x150 x151 x152 x153 x154 x155 x156 x157 x158 x159 x160 x161 x162 x163 x164 x165 x166 x167 x168 x169 x170 x171 x172 x173 x174 x175 x176 x177 x178 x179 x180 x181 x182 x183 x184 x185 x186 x187 x188 x189 x190 x191 x192 x193 x194 x195 x196 x197 x198 x199 x200 x201 x202 x203 x204 x205 x206 x207 x208 x209 x210 x211 x212 x213 x214 x215 x216 x217 x218 x219 x220 x221 x222 x223 x224 x225 x226 x227 x228 x229 x230 x231 x232 x233 x234 x235 x236 x237 x238 x239 x240 x241 x242 x243 x244 x245 x246 x247 x248 x249 x250 x251 x252 x253 x254 x255 x256 x257 x258 x259 x260 x261 x262 x263 x264 x265 x266 x267 x268 x269 x270 x271 x272 x273 x274 x275 x276 x277 x278 x279 x280 x281 x282 x283 x284 x285 x286 x287 x288 x289 x290 x291 x292 x293 x294 x295 x296 x297 x298 x299 x300 x301 x302 x303 x304 x305 x306 x307 x308 x309 x310 x311 x312 x313 x314 x315 x316 x317 x318 x319 x320 x321 x322 x323 x324 x325 x326 x327 x328 x329 x330 x331 x332 x333 x334 x335 x336 x337 x338 x339 x340 x341 x342 x343 x344 x345 x346 x347 x348 x349 x350 x351 x352 x353 x354 x355 x356 x357 x358 x359 x360 x361 x362 x363 x364 x365 x366 x367 x368 x369 x370 x371 x372 x373 x374 x375 x376 x377 x378 x379 x380 x381 x382 x383 x384 x385 x386 x387 x388 x389 x390 x391 x392 x393 x394 x395 x396 x397 x398 x399 : Value) (hK : ∀ (wc : World) (y26 y27 y28 y29 y76 y77 y78 y79 y80 y81 y82 y83 y84 y85 y86 y87 y88 y89 y90 y91 y92 y93 y94 y95 y96 y97 y98 y99 y100 y101 y102 y103 y104 y105 y106 y107 y108 y109 y110 y111 y112 y113 y114 y115 y116 y117 y118 y119 y120 y121 y122 y123 y124 y125 y126 y127 y128 y129 y130 y131 y132 y133 y134 y135 y136 y137 y138 y139 y140 y141 y142 y143 y144 y145 y146 y147 y148 y149 y150 y151 y152 : Value), (∃ LB, Mk DB ST PB na m n5 m dv pv LB L has W wc) → Q .normal ⟨#[x0, x1, x2, x3, .slice p4 n4 c4, .slice p5 n5 c5, .slice p6 n6 c6, x7, x8, x9, x10, x11, x12, x13, x14, x15, x16, x17, x18, x19, x20, .int .i64 na, .int .i64 m, .slice (some ⟨DB, 0, none⟩) m m, .slice (some ⟨ST, 0, none⟩) m m, .slice (some ⟨PB, 0, none⟩) m m, y26, y27, y28, y29, x30, x31, x32, x33, x34, x35, x36, x37, x38, x39, x40, x41, x42, x43, x44, x45, x46, x47, x48, x49, x50, x51, x52, x53, x54, x55, x56, x57, x58, x59, x60, x61, x62, x63, x64, x65, x66, x67, x68, x69, x70, x71, x72, x73, x74, x75, y76, y77, y78, y79, y80, y81, y82, y83, y84, y85, y86, y87, y88, y89, y90, y91, y92, y93, y94, y95, y96, y97, y98, y99, y100, y101, y102, y103, y104, y105, y106, y107, y108, y109, y110, y111, y112, y113, y114, y115, y116, y117, y118, y119, y120, y121, y122, y123, y124, y125, y126, y127, y128, y129, y130, y131, y132, y133, y134, y135, y136, y137, y138, y139, y140, y141, y142, y143, y144, y145, y146, y147, y148, y149, y150, y151, y152, x153, x154, x155, x156, x157, x158, x159, x160, x161, x162, x163, x164, x165, x166, x167, x168, x169, x170, x171, x172, x173, x174, x175, x176, x177, x178, x179, x180, x181, x182, x183, x184, x185, x186, x187, x188, x189, x190, x191, x192, x193, x194, x195, x196, x197, x198, x199, x200, x201, x202, x203, x204, x205, x206, x207, x208, x209, x210, x211, x212, x213, x214, x215, x216, x217, x218, x219, x220, x221, x222, x223, x224, x225, x226, x227, x228, x229, x230, x231, x232, x233, x234, x235, x236, x237, x238, x239, x240, x241, x242, x243, x244, x245, x246, x247, x248, x249, x250, x251, x252, x253, x254, x255, x256, x257, x258, x259, x260, x261, x262, x263, x264, x265, x266, x267, x268, x269, x270, x271, x272, x273, x274, x275, x276, x277, x278, x279, x280, x281, x282, x283, x284, x285, x286, x287, x288, x289, x290, x291, x292, x293, x294, x295, x296, x297, x298, x299, x300, x301, x302, x303, x304, x305, x306, x307, x308, x309, x310, x311, x312, x313, x314, x315, x316, x317, x318, x319, x320, x321, x322, x323, x324, x325, x326, x327, x328, x329, x330, x331, x332, x333, x334, x335, x336, x337, x338, x339, x340, x341, x342, x343, x344, x345, x346, x347, x348, x349, x350, x351, x352, x353, x354, x355, x356, x357, x358, x359, x360, x361, x362, x363, x364, x365, x366, x367, x368, x369, x370, x371, x372, x373, x374, x375, x376, x377, x378, x379, x380, x381, x382, x383, x384, x385, x386, x387, x388, x389, x390, x391, x392, x393, x394, x395, x396, x397, x398, x399], []⟩ wc) :
    Code.wp Yba.prog (loopIn (codeAt Yba.f4 15)) (Exit.inBlock (blkNo (codeAt Yba.f4 15)) Q) ⟨#[x0, x1, x2, x3, .slice p4 n4 c4, .slice p5 n5 c5, .slice p6 n6 c6, x7, x8, x9, x10, x11, x12, x13, x14, x15, x16, x17, x18, x19, x20, .int .i64 na, .int .i64 m, .slice (some ⟨DB, 0, none⟩) m m, .slice (some ⟨ST, 0, none⟩) m m, .slice (some ⟨PB, 0, none⟩) m m, .int .i64 0, x27, x28, x29, x30, x31, x32, x33, x34, x35, x36, x37, x38, x39, x40, x41, x42, x43, x44, x45, x46, x47, x48, x49, x50, x51, x52, x53, x54, x55, x56, x57, x58, x59, x60, x61, x62, x63, x64, x65, x66, x67, x68, x69, x70, x71, x72, x73, x74, x75, x76, x77, x78, x79, x80, x81, x82, x83, x84, x85, x86, x87, x88, x89, x90, x91, x92, x93, x94, x95, x96, x97, x98, x99, x100, x101, x102, x103, x104, x105, x106, x107, x108, x109, x110, x111, x112, x113, x114, x115, x116, x117, x118, x119, x120, x121, x122, x123, x124, x125, x126, x127, x128, x129, x130, x131, x132, x133, x134, x135, x136, x137, x138, x139, x140, x141, x142, x143, x144, x145, x146, x147, x148, x149, x150, x151, x152, x153, x154, x155, x156, x157, x158, x159, x160, x161, x162, x163, x164, x165, x166, x167, x168, x169, x170, x171, x172, x173, x174, x175, x176, x177, x178, x179, x180, x181, x182, x183, x184, x185, x186, x187, x188, x189, x190, x191, x192, x193, x194, x195, x196, x197, x198, x199, x200, x201, x202, x203, x204, x205, x206, x207, x208, x209, x210, x211, x212, x213, x214, x215, x216, x217, x218, x219, x220, x221, x222, x223, x224, x225, x226, x227, x228, x229, x230, x231, x232, x233, x234, x235, x236, x237, x238, x239, x240, x241, x242, x243, x244, x245, x246, x247, x248, x249, x250, x251, x252, x253, x254, x255, x256, x257, x258, x259, x260, x261, x262, x263, x264, x265, x266, x267, x268, x269, x270, x271, x272, x273, x274, x275, x276, x277, x278, x279, x280, x281, x282, x283, x284, x285, x286, x287, x288, x289, x290, x291, x292, x293, x294, x295, x296, x297, x298, x299, x300, x301, x302, x303, x304, x305, x306, x307, x308, x309, x310, x311, x312, x313, x314, x315, x316, x317, x318, x319, x320, x321, x322, x323, x324, x325, x326, x327, x328, x329, x330, x331, x332, x333, x334, x335, x336, x337, x338, x339, x340, x341, x342, x343, x344, x345, x346, x347, x348, x349, x350, x351, x352, x353, x354, x355, x356, x357, x358, x359, x360, x361, x362, x363, x364, x365, x366, x367, x368, x369, x370, x371, x372, x373, x374, x375, x376, x377, x378, x379, x380, x381, x382, x383, x384, x385, x386, x387, x388, x389, x390, x391, x392, x393, x394, x395, x396, x397, x398, x399], []⟩ W := by
  have HK : Hid (∀ (wc : World) (y26 y27 y28 y29 y76 y77 y78 y79 y80 y81 y82 y83 y84 y85 y86 y87 y88 y89 y90 y91 y92 y93 y94 y95 y96 y97 y98 y99 y100 y101 y102 y103 y104 y105 y106 y107 y108 y109 y110 y111 y112 y113 y114 y115 y116 y117 y118 y119 y120 y121 y122 y123 y124 y125 y126 y127 y128 y129 y130 y131 y132 y133 y134 y135 y136 y137 y138 y139 y140 y141 y142 y143 y144 y145 y146 y147 y148 y149 y150 y151 y152 : Value), (∃ LB, Mk DB ST PB na m n5 m dv pv LB L has W wc) → Q .normal ⟨#[x0, x1, x2, x3, .slice p4 n4 c4, .slice p5 n5 c5, .slice p6 n6 c6, x7, x8, x9, x10, x11, x12, x13, x14, x15, x16, x17, x18, x19, x20, .int .i64 na, .int .i64 m, .slice (some ⟨DB, 0, none⟩) m m, .slice (some ⟨ST, 0, none⟩) m m, .slice (some ⟨PB, 0, none⟩) m m, y26, y27, y28, y29, x30, x31, x32, x33, x34, x35, x36, x37, x38, x39, x40, x41, x42, x43, x44, x45, x46, x47, x48, x49, x50, x51, x52, x53, x54, x55, x56, x57, x58, x59, x60, x61, x62, x63, x64, x65, x66, x67, x68, x69, x70, x71, x72, x73, x74, x75, y76, y77, y78, y79, y80, y81, y82, y83, y84, y85, y86, y87, y88, y89, y90, y91, y92, y93, y94, y95, y96, y97, y98, y99, y100, y101, y102, y103, y104, y105, y106, y107, y108, y109, y110, y111, y112, y113, y114, y115, y116, y117, y118, y119, y120, y121, y122, y123, y124, y125, y126, y127, y128, y129, y130, y131, y132, y133, y134, y135, y136, y137, y138, y139, y140, y141, y142, y143, y144, y145, y146, y147, y148, y149, y150, y151, y152, x153, x154, x155, x156, x157, x158, x159, x160, x161, x162, x163, x164, x165, x166, x167, x168, x169, x170, x171, x172, x173, x174, x175, x176, x177, x178, x179, x180, x181, x182, x183, x184, x185, x186, x187, x188, x189, x190, x191, x192, x193, x194, x195, x196, x197, x198, x199, x200, x201, x202, x203, x204, x205, x206, x207, x208, x209, x210, x211, x212, x213, x214, x215, x216, x217, x218, x219, x220, x221, x222, x223, x224, x225, x226, x227, x228, x229, x230, x231, x232, x233, x234, x235, x236, x237, x238, x239, x240, x241, x242, x243, x244, x245, x246, x247, x248, x249, x250, x251, x252, x253, x254, x255, x256, x257, x258, x259, x260, x261, x262, x263, x264, x265, x266, x267, x268, x269, x270, x271, x272, x273, x274, x275, x276, x277, x278, x279, x280, x281, x282, x283, x284, x285, x286, x287, x288, x289, x290, x291, x292, x293, x294, x295, x296, x297, x298, x299, x300, x301, x302, x303, x304, x305, x306, x307, x308, x309, x310, x311, x312, x313, x314, x315, x316, x317, x318, x319, x320, x321, x322, x323, x324, x325, x326, x327, x328, x329, x330, x331, x332, x333, x334, x335, x336, x337, x338, x339, x340, x341, x342, x343, x344, x345, x346, x347, x348, x349, x350, x351, x352, x353, x354, x355, x356, x357, x358, x359, x360, x361, x362, x363, x364, x365, x366, x367, x368, x369, x370, x371, x372, x373, x374, x375, x376, x377, x378, x379, x380, x381, x382, x383, x384, x385, x386, x387, x388, x389, x390, x391, x392, x393, x394, x395, x396, x397, x398, x399], []⟩ wc) := hK
  clear hK
  conv => arg 2; whnf
  conv => arg 3; arg 1; whnf
  conv => arg 4; dsimp only
  obtain ⟨i67, hi67, hz0, hz1, hz2⟩ := info_parts Yba.info67c
  have HI : Hid ((∀ j, dv j = if j < n4 then dom j else (j : Int)) ∧ (∀ j, pv j = if j < n6 then prn j else false) ∧ SlB w p4 n4 (fun i => .int .i64 (dom i)) ∧ SlB w p6 n6 (fun i => .bool (prn i)) ∧ NgIn p5 n5 L has w ∧ (∀ i, i < n5 → (L i).n ≤ 300) ∧ Below w.heap.size w W ∧ Mk DB ST PB na m n5 0 dv pv (fun _ => 0) L has W W) := ⟨hd, hp, s4, s6, hN, hl, hb, hM⟩
  have HMM : Hid (m = n5 + 1) := hmm
  have hm301 : m ≤ 301 := by omega
  clear hd hp s4 s6 hN hl hb hM hmm
  go_loopw [26] (fun x wr => ∃ i : Nat, i ≤ m ∧ x = .int .i64 i ∧ ∃ LB, Mk DB ST PB na m n5 i dv pv LB L has W wr) (fun x _ => m - (intOf x).toNat)
  case atStart => exact ⟨0, Nat.zero_le _, rfl, fun _ => 0, HI.out.2.2.2.2.2.2.2⟩
  case round =>
    obtain ⟨i, hi, rfl, LB, hM⟩ := hrel
    by_cases hlt : i < m
    · have hbw : Below w.heap.size w wr := HI.out.2.2.2.2.2.2.1.trans (hM.kp.below HI.out.2.2.2.2.2.2.1.size (fun b e => by omega))
      have d0 := hM.d.cell i hlt
      have f0 := hM.d.free i hlt
      have i1 : (0 : Int) ≤ (i : Int) := by omega
      have i2 : (i : Int) < (m : Int) := by omega
      have HM : Hid (Mk DB ST PB na m n5 i dv pv LB L has W wr ∧ Below w.heap.size w wr) := ⟨hM, hbw⟩
      have HL : Hid (∀ j, j < i → j < n5 → ¬ (LB j = DB ∨ LB j = ST ∨ LB j = PB)) := fun j h1 h2 => by have := (hM.l j h1 h2).1; omega
      clear hM hbw
      go_upto_if 88 with fail
      have hT1 : Cells (wr.setCell ⟨DB, i, none⟩ (.int .i64 i)) DB m (fun j => if j = i then .int .i64 (i : Int) else .int .i64 (toG 0 dv i j)) := HM.out.1.d.set hlt _
      have hk1 : Keeps (fun b => b = DB) wr (wr.setCell ⟨DB, i, none⟩ (.int .i64 i)) := keep1 _ _ _ _
      have HT : Hid (Cells (wr.setCell ⟨DB, i, none⟩ (.int .i64 i)) DB m (fun j => if j = i then .int .i64 (i : Int) else .int .i64 (toG 0 dv i j)) ∧ Keeps (fun b => b = DB) wr (wr.setCell ⟨DB, i, none⟩ (.int .i64 i))) := ⟨hT1, hk1⟩
      have e0 := hT1.cell i hlt
      have e1 := hT1.free i hlt
      simp only [if_true] at e0
      clear hT1 hk1 d0 f0
      generalize wr.setCell ⟨DB, i, none⟩ (.int .i64 i) = T1 at *
      go_cut [] from 88 to 95 (fun wx => Cells wx DB m (fun j => .int .i64 (toG 0 dv (i + 1) j)) ∧ Keeps (fun b => b = DB) wr wx)
      case first =>
        have hdv := HI.out.1 i
        by_cases h : i < n4
        · obtain ⟨b, o, e, hc⟩ := HI.out.2.2.1.pos (by omega)
          cases e
          have hbl : b < w.heap.size := World.block_lt_of_cell? _ _ (hc i h)
          have c := HT.out.2.cell (p := ⟨b, o + i, none⟩) (by show ¬ b = DB; omega) (cell_later HM.out.2 (hc i h))
          have k1 : decide ((i : Int) < (n4 : Int)) = true := by simp; omega
          have i3 : (i : Int) < (n4 : Int) := by omega
          rw [if_pos h] at hdv
          clear hc
          have HD : Hid (dom i = dv i) := hdv.symm
          clear hdv
          go_wp2_with fail
          go_meet
          exact ⟨int_lay2 HT.out.1 hlt HD.out, HT.out.2.setCell (p := ⟨DB, i, none⟩) rfl _⟩
        · have k1 : decide ((i : Int) < (n4 : Int)) = false := by simp; omega
          rw [if_neg h] at hdv
          have HD : Hid ((i : Int) = dv i) := hdv.symm
          clear hdv
          go_wp2_with fail
          go_meet
          exact ⟨int_stay HT.out.1 HD.out, HT.out.2⟩
      case rest =>
      obtain ⟨T2, rfl⟩ : ∃ x, x = wc := ⟨wc, rfl⟩
      obtain ⟨hD2, hK2⟩ := hcut
      have H2 : Hid (Cells T2 DB m (fun j => .int .i64 (toG 0 dv (i + 1) j)) ∧ Keeps (fun b => b = DB) wr T2 ∧ Below w.heap.size w T2) := ⟨hD2, hK2, HM.out.2.trans (hK2.below HM.out.2.size (fun b e => by rw [e]; exact lD))⟩
      have hP2 := hK2.cells (fun h => nDP h.symm) HM.out.1.p
      have p0 := hP2.cell i hlt
      have p1 := hP2.free i hlt
      have HP2 : Hid (Cells T2 PB m (fun j => .bool (toG false pv i j))) := hP2
      clear hD2 hK2 hP2 HT e0 e1
      go_upto_if 99 with fail
      go_cut [] from 99 to 106 (fun wx => Cells wx PB m (fun j => .bool (toG false pv (i + 1) j)) ∧ Keeps (fun b => b = PB) T2 wx)
      case first =>
        have hpv := HI.out.2.1 i
        by_cases h : i < n6
        · obtain ⟨b, o, e, hc⟩ := HI.out.2.2.2.1.pos (by omega)
          cases e
          have c := cell_later H2.out.2.2 (hc i h)
          have k1 : decide ((i : Int) < (n6 : Int)) = true := by simp; omega
          have i3 : (i : Int) < (n6 : Int) := by omega
          rw [if_pos h] at hpv
          clear hc
          have HD : Hid (prn i = pv i) := hpv.symm
          clear hpv
          go_wp2_with fail
          go_meet
          exact ⟨bool_lay HP2.out hlt HD.out, keep1 _ _ _ _⟩
        · have k1 : decide ((i : Int) < (n6 : Int)) = false := by simp; omega
          rw [if_neg h] at hpv
          have HD : Hid (pv i = false) := hpv
          clear hpv
          go_wp2_with fail
          go_meet
          exact ⟨bool_skip HP2.out HD.out, Keeps.refl _ _⟩
      case rest =>
      obtain ⟨T3, rfl⟩ : ∃ x, x = wc := ⟨wc, rfl⟩
      obtain ⟨hP3, hK3⟩ := hcut
      have hb3 : Below w.heap.size w T3 := H2.out.2.2.trans (hK3.below H2.out.2.2.size (fun b e => by rw [e]; exact lP))
      have hK23 : Keeps (fun b => b = DB ∨ b = ST ∨ b = PB) wr T3 := (H2.out.2.1.weak (fun _ h => Or.inl h)).trans (hK3.weak (fun _ h => Or.inr (Or.inr h)))
      have hS3 : Cells T3 ST (m * 2) (stC LB L has (min i n5)) := hK3.cells nSP (H2.out.2.1.cells (fun h => nDS h.symm) HM.out.1.s)
      have hl3 : ∀ j, j < i → j < n5 → W.heap.size ≤ LB j ∧ LB j < T3.heap.size ∧ ∀ q, q < (L j).n * 3 → T3.cell? ⟨LB j, q, none⟩ = some (asC ((L j).as na) q) := fun j h1 h2 => by
        obtain ⟨a1, a2, a3⟩ := HM.out.1.l j h1 h2
        have n1 := HL.out j h1 h2
        refine ⟨a1, Nat.lt_of_lt_of_le a2 hK23.size, fun q hq => hK23.cell (p := ⟨LB j, q, none⟩) (by show ¬ (LB j = DB ∨ LB j = ST ∨ LB j = PB); omega) (a3 q hq)⟩
      have H3 : Hid (Cells T3 DB m (fun j => .int .i64 (toG 0 dv (i + 1) j)) ∧ Cells T3 PB m (fun j => .bool (toG false pv (i + 1) j)) ∧ Cells T3 ST (m * 2) (stC LB L has (min i n5)) ∧ (∀ j, j < i → j < n5 → W.heap.size ≤ LB j ∧ LB j < T3.heap.size ∧ ∀ q, q < (L j).n * 3 → T3.cell? ⟨LB j, q, none⟩ = some (asC ((L j).as na) q)) ∧ Keeps (fun b => b = DB ∨ b = ST ∨ b = PB) W T3 ∧ Below w.heap.size w T3) := ⟨hK3.cells nDP H2.out.1, hP3, hS3, hl3, HM.out.1.kp.trans hK23, hb3⟩
      clear hP3 hK3 hb3 hK23 hS3 hl3 H2 HP2 p0 p1
      go_upto_if 110 with fail
      by_cases h : i < n5
      · have k1 : decide ((i : Int) < (n5 : Int)) = true := by simp; omega
        have i3 : (i : Int) < (n5 : Int) := by omega
        obtain ⟨b, o, e, hc⟩ := HI.out.2.2.2.2.1.pos (by omega)
        cases e
        obtain ⟨c0, c1⟩ := hc i h
        have hbl : b < w.heap.size := World.block_lt_of_cell? _ _ c0
        have x0 := cell_later H3.out.2.2.2.2.2 c0
        have x1 := cell_later H3.out.2.2.2.2.2 c1
        have hln := HI.out.2.2.2.2.2.1 i h
        simp only [Lb.val] at x1
        clear hc c0 c1
        have hby : i67.bytes * (L i).n ≤ 281474976710656 := by rw [hz2]; omega
        go_wp2_with (first | (at_make; refine wpList_make_full _ rfl (.tmp 116) (.tmp 116) 42 rfl T3.heap.size 67 i67 (.agg #[.int .i64 0, .int .i64 0, .int .i64 0]) 3 Yba.underlying42 hi67 hz0 hz1 .i64 .i64 _ _ (L i).n rfl rfl rfl rfl (by rw [hz2]; omega) (by unfold maxLen; omega) (Nat.le_refl _) ?_; intro w1 hown1 hgrow1; have hb1 := (Below.refl T3.heap.size T3).grown hgrow1 (Nat.le_refl _) (by simp); have x0' := cell_later hb1 x0; have x1' := cell_later hb1 x1) | fail)
        have hC4 : Cells w1 T3.heap.size ((L i).n * 3) (asC (fun _ => a0)) := (Cells.made hown1).congr fun q hq => by
          rw [made_get (by omega)]
          have : q % 3 = 0 ∨ q % 3 = 1 ∨ q % 3 = 2 := by omega
          rcases this with e | e | e <;> simp [Value.cells, e, asC, a0]
        have hsl : T3.heap.size < w1.heap.size := hC4.lt
        have hbw1 : Below w.heap.size w w1 := H3.out.2.2.2.2.2.trans (hb1.mono H3.out.2.2.2.2.2.size)
        have hws := H3.out.2.2.2.2.2.size
        have hWs := H3.out.2.2.2.2.1.size
        have hLI := HI.out.2.2.2.2.1.l i h
        refine bok_25 na T3.heap.size (L i) w1 hC4 (hLI.later hbw1) (fun hn b' o' e => by
          obtain ⟨b2, o2, e2, hc2⟩ := hLI.pos hn
          rw [e] at e2
          cases e2
          have hlt2 : b' < w.heap.size := World.block_lt_of_cell? _ _ (hc2 0 hn).1
          omega) hln hna0 hna _ _ _ _ _ _ _ _ _ _ _ _ _ _ _ _ _ _ _ _ _ _ _ _ _ _ _ _ _ _ _ _ _ _ _ _ _ _ _ _ _ _ _ _ _ _ _ _ _ _ _ _ _ _ _ _ _ _ _ _ _ _ _ _ _ _ _ _ _ _ _ _ _ _ _ _ _ _ _ _ _ _ _ _ _ _ _ _ _ _ _ _ _ _ _ _ _ _ _ _ _ _ _ _ _ _ _ _ _ _ _ _ _ _ _ _ _ _ _ _ _ _ _ _ _ _ _ _ _ _ _ _ _ _ _ _ _ _ _ _ _ _ _ _ _ _ _ _ _ _ _ _ _ _ _ _ _ _ _ _ _ _ _ _ _ _ _ _ _ _ _ _ _ _ _ _ _ _ _ _ _ _ _ _ _ _ _ _ _ _ _ _ _ _ _ _ _ _ _ _ _ _ _ _ _ _ _ _ _ _ _ _ _ _ _ _ _ _ _ _ _ _ _ _ _ _ _ _ _ _ _ _ _ _ _ _ _ _ _ _ _ _ _ _ _ _ _ _ _ _ _ _ _ _ _ _ _ _ _ _ _ _ _ _ _ _ _ _ _ _ _ _ _ _ _ _ _ _ _ _ _ _ _ _ _ _ _ _ _ _ _ _ _ _ _ _ _ _ _ _ _ _ _ _ _ _ _ _ _ _ _ _ _ _ _ _ _ _ _ _ _ _ _ _ _ _ _ _ _ _ _ _ _ _ _ _ _ _ _ _ _ _ _ _ _ _ _ _ _ _ _ _ _ _ _ _ _ _ _ _ _ _ _ _ _ _ _ _ _ _ _ _ _ _ _ _ _ _ _ _ _ _ _ _ _ _ _ _ _ _ _ _ _ _ _ _ ?_
        rintro wc _ _ _ _ _ _ _ _ _ _ _ _ _ _ _ _ _ _ _ _ _ ⟨hC5, hK5⟩
        have hS5 : Cells wc ST (m * 2) (stC LB L has i) := by
          have := hK5.cells (b := ST) (by omega) (H3.out.2.2.1.later hb1)
          rwa [show min i n5 = i by omega] at this
        have s0 := hS5.cell (i * 2) (by omega)
        have s1 := hS5.cell (i * 2 + 1) (by omega)
        have g0 := hS5.free (i * 2) (by omega)
        have g1 := hS5.free (i * 2 + 1) (by omega)
        have z0 := hK5.cell (p := ⟨b, o + i * 2, none⟩) (by show ¬ b = T3.heap.size; omega) x0'
        have e3 : ¬ b = ST := by omega
        have e4 : ¬ ST = b := by omega
        have H5 : Hid (Cells wc T3.heap.size ((L i).n * 3) (asC ((L i).as na)) ∧ Keeps (fun b => b = T3.heap.size) w1 wc ∧ Cells wc ST (m * 2) (stC LB L has i) ∧ Below T3.heap.size T3 w1) := ⟨hC5, hK5, hS5, hb1⟩
        clear hC4 hC5 hK5 hS5 hown1 hgrow1 x0 x1 x0' x1' hLI
        have i4 : (i : Int) < (m : Int) := by omega
        go_wp2_with fail
        go_roundw
        case rel =>
          obtain ⟨a1, a2, a3, a4, a5, a6⟩ := H3.out
          obtain ⟨q1, q2, q3, q4⟩ := H5.out
          have hm := HMM.out
          have kS : Keeps (fun x => x = ST) wc ((wc.setCell ⟨ST, i * 2, none⟩ (.slice (some ⟨T3.heap.size, 0, none⟩) (L i).n (L i).n)).setCell ⟨ST, i * 2 + 1, none⟩ (.bool (has i))) := (keep1 _ ST _ _).trans (keep1 _ ST _ _)
          refine ⟨i + 1, by omega, by go_num, put LB i T3.heap.size, kS.cells (by omega) (q2.cells (b := DB) (by omega) (a1.later q4)), kS.cells (fun e => nSP e.symm) (q2.cells (b := PB) (by omega) (a2.later q4)), ?_, fun j h1 h2 => ?_, ?_⟩
          · rw [show min (i + 1) n5 = i + 1 by omega]
            exact st_lay q3 hlt
          · by_cases e : j = i
            · subst e
              rw [put_same]
              exact ⟨hWs, Nat.lt_of_lt_of_le q1.lt kS.size, fun q hq => kS.cell (p := ⟨T3.heap.size, q, none⟩) (by show ¬ T3.heap.size = ST; omega) (q1.cell q hq)⟩
            · rw [put_other _ _ _ e]
              obtain ⟨r1, r2, r3⟩ := a4 j (by omega) h2
              have hne := HL.out j (by omega) h2
              refine ⟨r1, Nat.lt_of_lt_of_le (Nat.lt_of_lt_of_le r2 (Nat.le_trans q4.size q2.size)) kS.size, fun q hq => kS.cell (p := ⟨LB j, q, none⟩) (by show ¬ LB j = ST; omega) (q2.cell (p := ⟨LB j, q, none⟩) (by show ¬ LB j = T3.heap.size; omega) (cell_later q4 (r3 q hq)))⟩
          · exact (keeps_made (a5.trans (Keeps.of_below q4)) q2 hWs).trans (kS.weak (fun _ e => Or.inr (Or.inl e)))
        case measure => simp [intOf]; omega
      · have k1 : decide ((i : Int) < (n5 : Int)) = false := by simp; omega
        go_wp2_with fail
        go_roundw
        case rel =>
          obtain ⟨a1, a2, a3, a4, a5, a6⟩ := H3.out
          have hm := HMM.out
          refine ⟨i + 1, by omega, by go_num, LB, a1, a2, ?_, fun j h1 h2 => a4 j (by omega) h2, a5⟩
          rw [show min (i + 1) n5 = min i n5 by omega]
          exact a3
        case measure => simp [intOf]; omega
    · obtain rfl : m = i := by omega
      go_wp2_with fail
      exact HK.out _ _ _ _ _ _ _ _ _ _ _ _ _ _ _ _ _ _ _ _ _ _ _ _ _ _ _ _ _ _ _ _ _ _ _ _ _ _ _ _ _ _ _ _ _ _ _ _ _ _ _ _ _ _ _ _ _ _ _ _ _ _ _ _ _ _ _ _ _ _ _ _ _ _ _ _ _ _ _ _ _ _ ⟨LB, hM⟩

end Go.Proofs.Ybulkclmc
