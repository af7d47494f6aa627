import Derived.Test.YbulkclmcBokT
import Derived.Test.YbulkclmcBokZ2
import Derived.Test.YbulkclmcBokR
namespace Go.Proofs.Ybulkclmc
open Go.RowKit

def agB (me na m c DB O ST PB JA : Nat) (tag : Int) : Array Value := #[.int .i64 me, .int .i64 na, .slice (some ⟨DB, 0, none⟩) m m, .slice none 0 0, .slice none 0 0, .slice none 0 0, .pointer (some ⟨O, 0, none⟩), .pointer none, .int .i64 c, .int .i64 tag, .slice none 0 0, .slice (some ⟨ST, 0, none⟩) m m, .slice (some ⟨PB, 0, none⟩) m m, .slice none 0 0, .slice none 0 0, .slice none 0 0, .int .i64 0, .slice none 0 0, .int .i64 0, .slice none 0 0, .slice none 0 0, .int .u64 0, .slice none 0 0, .slice none 0 0, .slice none 0 0, .int .i64 0, .slice (some ⟨JA, 0, none⟩) na na, .string { data := #[] }, .slice none 0 0, .slice none 0 0, .slice none 0 0, .slice none 0 0, .slice none 0 0, .slice none 0 0, .slice none 0 0, .slice none 0 0, .slice none 0 0, .slice none 0 0, .slice none 0 0, .slice none 0 0, .slice none 0 0, .slice none 0 0, .slice none 0 0, .slice none 0 0, .slice none 0 0, .slice none 0 0, .slice none 0 0, .slice none 0 0, .slice none 0 0, .bool false]

def R32 (H b1 me na m c DB O ST PB : Nat) (tag : Int) : Nat → Value → World → Prop
  | 0, x, _ => x = .int .u8 b1
  | 1, x, _ => x = .int .i64 b1
  | 2, x, _ => x = .int .i64 na
  | 3, x, _ => x = .int .i64 me
  | 4, x, _ => x = .int .i64 na
  | 5, x, _ => x = .slice (some ⟨DB, 0, none⟩) m m
  | 6, x, _ => x = .pointer (some ⟨O, 0, none⟩)
  | 7, x, _ => x = .int .i64 c
  | 8, x, _ => x = .int .i64 tag
  | 9, x, _ => x = .slice (some ⟨ST, 0, none⟩) m m
  | 10, x, _ => x = .slice (some ⟨PB, 0, none⟩) m m
  | 11, x, _ => x = .int .i64 na
  | 12, x, w => ∃ JA, x = .slice (some ⟨JA, 0, none⟩) na na ∧ Cells w JA na (atC (fun _ => 0)) ∧ H ≤ JA
  | 13, x, w => ∃ JA, x = .agg (agB me na m c DB O ST PB JA tag) ∧ Cells w JA na (atC (fun _ => 0)) ∧ H ≤ JA
  | 14, x, w => ∃ AG JA, x = .pointer (some ⟨AG, 0, none⟩) ∧ (∀ i, i < 50 → w.cell? ⟨AG, i, none⟩ = some (agB me na m c DB O ST PB JA tag)[i]!) ∧ Cells w JA na (atC (fun _ => 0)) ∧ H ≤ JA ∧ JA < AG
  | 15, x, w => ∃ AG JA, x = .pointer (some ⟨AG, 0, none⟩) ∧ (∀ i, i < 50 → w.cell? ⟨AG, i, none⟩ = some (agB me na m c DB O ST PB JA tag)[i]!) ∧ Cells w JA na (atC (fun _ => 0)) ∧ H ≤ JA ∧ JA < AG
  | _, _, _ => True

theorem R32_stable {H b1 me na m c DB O ST PB : Nat} {tag : Int} : ∀ j x w w', R32 H b1 me na m c DB O ST PB tag j x w → Below w.heap.size w w' → R32 H b1 me na m c DB O ST PB tag j x w'
  | 0, _, _, _, h, _ => h
  | 1, _, _, _, h, _ => h
  | 2, _, _, _, h, _ => h
  | 3, _, _, _, h, _ => h
  | 4, _, _, _, h, _ => h
  | 5, _, _, _, h, _ => h
  | 6, _, _, _, h, _ => h
  | 7, _, _, _, h, _ => h
  | 8, _, _, _, h, _ => h
  | 9, _, _, _, h, _ => h
  | 10, _, _, _, h, _ => h
  | 11, _, _, _, h, _ => h
  | 12, _, _, _, h, hb => by obtain ⟨a, e, h1, h2⟩ := h; exact ⟨a, e, h1.later hb, h2⟩
  | 13, _, _, _, h, hb => by obtain ⟨a, e, h1, h2⟩ := h; exact ⟨a, e, h1.later hb, h2⟩
  | 14, _, _, _, h, hb => by obtain ⟨a, b, e, h0, h1, h2⟩ := h; exact ⟨a, b, e, fun i hi => cell_later hb (h0 i hi), h1.later hb, h2⟩
  | 15, _, _, _, h, hb => by obtain ⟨a, b, e, h0, h1, h2⟩ := h; exact ⟨a, b, e, fun i hi => cell_later hb (h0 i hi), h1.later hb, h2⟩
  | _ + 16, _, _, _, _, _ => trivial

theorem Yba.info3m : (Yba.prog.info? 3).map (fun i => (i.zero, i.size, i.bytes)) = some (some (.int .i64 0), 1, 8) := by kernel_rfl

theorem cells_mk (w : World) (z : Array Value) (m t : Nat) : Cells (w.alloc (.cells (madeCells z m) t)) w.heap.size m (fun i => z[i % z.size]!) := by
  refine ⟨fun i hi => ?_, fun i hi => World.frozen?_alloc_at _ _ _ i rfl, by simp⟩
  rw [World.cell?_alloc_at _ _ _ i rfl]
  simp [madeCells, hi]

def hsX (n5 : Nat) (has : Nat → Bool) (i : Nat) : Bool := decide (i < n5) && has i
def lpX (n5 : Nat) (LB : Nat → Nat) (i : Nat) : Option Addr := if i < n5 then some ⟨LB i, 0, none⟩ else none
def lnX (n5 : Nat) (L : Nat → Lb) (i : Nat) : Nat := if i < n5 then (L i).n else 0

theorem st_cell {w : World} {ST m n5 : Nat} {LB : Nat → Nat} {L : Nat → Lb} {has : Nat → Bool} (h : Cells w ST (m * 2) (stC LB L has n5)) {i : Nat} (hi : i < m) : w.cell? ⟨ST, i * 2, none⟩ = some (.slice (lpX n5 LB i) (lnX n5 L i) (lnX n5 L i)) ∧ w.cell? ⟨ST, i * 2 + 1, none⟩ = some (.bool (hsX n5 has i)) := by
  refine ⟨(h.cell (i * 2) (by omega)).trans ?_, (h.cell (i * 2 + 1) (by omega)).trans ?_⟩
  · simp only [stC, show i * 2 % 2 = 0 by omega, show i * 2 / 2 = i by omega, if_true, lpX, lnX]
    split <;> rfl
  · simp [stC, show (i * 2 + 1) % 2 = 1 by omega, show (i * 2 + 1) / 2 = i by omega, hsX]

set_option maxRecDepth 1000000 in
set_option maxHeartbeats 8000000 in
theorem bok_31 (b1 b7 rot DB ST PB OR OA P na m n5 c5 : Nat) (rev : Bool) (p5 : Option Addr) (tag : Int) (dv : Nat → Int) (pv has : Nat → Bool) (LB : Nat → Nat) (L : Nat → Lb) (w W0 W : World)
    (hM : Mk DB ST PB na m n5 m dv pv LB L has W0 W) (hO : OrderI na rot rev OR OA P W) (hN : NgIn p5 n5 L has w) (hl : ∀ i, i < n5 → (L i).n ≤ 300) (hbw : Below w.heap.size w W) (hOl : OR < W.heap.size) (hmm : m = n5 + 1) (h5 : n5 ≤ 300) (hna0 : 0 < na) (hna : na ≤ 6) (h1 : b1 ≤ 255) (h7 : b7 ≤ 255)
    (x0 x2 x3 x4 x6 x9 x10 x11 x12 x13 x14 x15 x16 x17 x18 x19 x20 x26 x27 x28 x29 x31 x32 x33 x34 x35 x36 x37 x38 x39 x40 x41 x42 x43 x44 x45 x46 x47 x48 x49 x50 x51 x52 x53 x54 x55 x56 x57 x58 x59 x60 x61 x62 x63 x64 x65 x66 x67 x68 x69 x70 x71 x72 x73 x74 x75 x76 x77 x78 x79 x80 x81 x82 x83 x84 x85 x86 x87 x88 x89 x90 x91 x92 x93 x94 x95 x96 x97 x98 x99 x100 x101 x102 x103 x104 x105 x106 x107 x108 x109 x110 x111 x112 x113 x114 x115 x116 x117 x118 x119 x120 x121 x122 x123 x124 x125 x126 x127 x128 x129 x130 x131 x132 x133 x134 x135 x136 x137 x138 x139 x140 x141 x142 x143 x144 x145 x146 x147 x148 x149 x150 x151 x152 x153 x154 x155 x156 x157 x158 x159 x160 x161 x162 x163 x164 x165 x166 x167 x168 x169 x170 x171 x172 x173 x174 x175 x176 x177 x178 x179 x180 x181 x182 x183 x184 x185 x186 x187 x188 x189 x190 x191 x192 x193 x194 x195 x196 x197 x198 x199 x200 x201 x202 x203 x204 x205 x206 x207 x208 x209 x210 x211 x212 x213 x214 x215 x216 x217 x218 x219 x220 x221 x222 x223 x224 x225 x226 x227 x228 x229 x230 x231 x232 x233 x234 x235 x236 x237 x238 x239 x240 x241 x242 x243 x244 x245 x246 x247 x248 x249 x250 x251 x252 x253 x254 x255 x256 x257 x258 x259 x260 x261 x262 x263 x264 x265 x266 x267 x268 x269 x270 x271 x272 x273 x274 x275 x276 x277 x278 x279 x280 x281 x282 x283 x284 x285 x286 x287 x288 x289 x290 x291 x292 x293 x294 x295 x296 x297 x298 x299 x300 x301 x302 x303 x304 x305 x306 x307 x308 x309 x310 x311 x312 x313 x314 x315 x316 x317 x318 x319 x320 x321 x322 x323 x324 x325 x326 x327 x328 x329 x330 x331 x332 x333 x334 x335 x336 x337 x338 x339 x340 x341 x342 x343 x344 x345 x346 x347 x348 x349 x350 x351 x352 x353 x354 x355 x356 x357 x358 x359 x360 x361 x362 x363 x364 x365 x366 x367 x368 x369 x370 x371 x372 x373 x374 x375 x376 x377 x378 x379 x380 x381 x382 x383 x384 x385 x386 x387 x388 x389 x390 x391 x392 x393 x394 x395 x396 x397 x398 x399 : Value) :
    Code.wp Yba.prog (codeAt Yba.f4 31) (bodyPost Yba.prog Yba.f4 (fun e w' => e = .returned (.bool true) ∧ Below w.heap.size w w')) ⟨#[x0, .int .u8 b1, x2, x3, x4, .slice p5 n5 c5, x6, .int .u8 b7, .int .i64 tag, x9, x10, x11, x12, x13, x14, x15, x16, x17, x18, x19, x20, .int .i64 na, .int .i64 m, .slice (some ⟨DB, 0, none⟩) m m, .slice (some ⟨ST, 0, none⟩) m m, .slice (some ⟨PB, 0, none⟩) m m, x26, x27, x28, x29, .pointer (some ⟨OR, 0, none⟩), x31, x32, x33, x34, x35, x36, x37, x38, x39, x40, x41, x42, x43, x44, x45, x46, x47, x48, x49, x50, x51, x52, x53, x54, x55, x56, x57, x58, x59, x60, x61, x62, x63, x64, x65, x66, x67, x68, x69, x70, x71, x72, x73, x74, x75, x76, x77, x78, x79, x80, x81, x82, x83, x84, x85, x86, x87, x88, x89, x90, x91, x92, x93, x94, x95, x96, x97, x98, x99, x100, x101, x102, x103, x104, x105, x106, x107, x108, x109, x110, x111, x112, x113, x114, x115, x116, x117, x118, x119, x120, x121, x122, x123, x124, x125, x126, x127, x128, x129, x130, x131, x132, x133, x134, x135, x136, x137, x138, x139, x140, x141, x142, x143, x144, x145, x146, x147, x148, x149, x150, x151, x152, x153, x154, x155, x156, x157, x158, x159, x160, x161, x162, x163, x164, x165, x166, x167, x168, x169, x170, x171, x172, x173, x174, x175, x176, x177, x178, x179, x180, x181, x182, x183, x184, x185, x186, x187, x188, x189, x190, x191, x192, x193, x194, x195, x196, x197, x198, x199, x200, x201, x202, x203, x204, x205, x206, x207, x208, x209, x210, x211, x212, x213, x214, x215, x216, x217, x218, x219, x220, x221, x222, x223, x224, x225, x226, x227, x228, x229, x230, x231, x232, x233, x234, x235, x236, x237, x238, x239, x240, x241, x242, x243, x244, x245, x246, x247, x248, x249, x250, x251, x252, x253, x254, x255, x256, x257, x258, x259, x260, x261, x262, x263, x264, x265, x266, x267, x268, x269, x270, x271, x272, x273, x274, x275, x276, x277, x278, x279, x280, x281, x282, x283, x284, x285, x286, x287, x288, x289, x290, x291, x292, x293, x294, x295, x296, x297, x298, x299, x300, x301, x302, x303, x304, x305, x306, x307, x308, x309, x310, x311, x312, x313, x314, x315, x316, x317, x318, x319, x320, x321, x322, x323, x324, x325, x326, x327, x328, x329, x330, x331, x332, x333, x334, x335, x336, x337, x338, x339, x340, x341, x342, x343, x344, x345, x346, x347, x348, x349, x350, x351, x352, x353, x354, x355, x356, x357, x358, x359, x360, x361, x362, x363, x364, x365, x366, x367, x368, x369, x370, x371, x372, x373, x374, x375, x376, x377, x378, x379, x380, x381, x382, x383, x384, x385, x386, x387, x388, x389, x390, x391, x392, x393, x394, x395, x396, x397, x398, x399], []⟩ W := by
  have HI : Hid (Mk DB ST PB na m n5 m dv pv LB L has W0 W ∧ OrderI na rot rev OR OA P W ∧ NgIn p5 n5 L has w ∧ (∀ i, i < n5 → (L i).n ≤ 300) ∧ Below w.heap.size w W) := ⟨hM, hO, hN, hl, hbw⟩
  have HMM : Hid (m = n5 + 1) := hmm
  have hm301 : m ≤ 301 := by omega
  have hm0 : 0 < m := by omega
  clear hM hO hN hl hbw hmm
  have hcI : ((b7 : Nat) : Int) % (m : Int) = ((b7 % m : Nat) : Int) := by rw [Int.natCast_emod]
  have hcl : b7 % m < m := Nat.mod_lt _ hm0
  have hmI : ((b1 : Nat) : Int) % (na : Int) = ((b1 % na : Nat) : Int) := by rw [Int.natCast_emod]
  have hml : b1 % na < na := Nat.mod_lt _ hna0
  generalize b7 % m = c at *
  generalize b1 % na = me at *
  have z1 : ¬ (m : Int) = 0 := by omega
  have z2 : ((m : Int) == 0) = false := by simp; omega
  have z3 : ¬ (na : Int) = 0 := by omega
  have z4 : ((na : Int) == 0) = false := by simp; omega
  conv => arg 2; whnf
  conv => arg 4; dsimp only
  go_upto_region 31 with fail
  go_cut [31] from 157 to 160 (fun s wx => s = .int .i64 c ∧ wx = W)
  case first =>
    go_wp2_with fail
    go_meet
    exact ⟨by rw [hcI], rfl⟩
  case rest =>
  obtain ⟨rfl, hwc⟩ := hcut
  subst hwc
  obtain ⟨W, rfl⟩ : ∃ x, x = wc := ⟨wc, rfl⟩
  apply_assumption
  go_upto_region 32 with fail
  have hmk := run_make_row' (P := Yba.prog) 37 3 (.int .i64 0) 8 Yba.underlying37 Yba.info3m rfl .i64 .i64 na (by omega) (by omega)
  go_cut [32] from 161 to 175 (fun s wx => ∃ AG JA, s = .pointer (some ⟨AG, 0, none⟩) ∧ (∀ i, i < 50 → wx.cell? ⟨AG, i, none⟩ = some (agB me na m c DB OR ST PB JA tag)[i]!) ∧ (Cells wx JA na (atC (fun _ => 0)) ∧ W.heap.size ≤ JA ∧ JA < AG) ∧ Below W.heap.size W wx)
  case first =>
    refine wp_region_rel (n := 16) (by kernel_rfl) (plain_of (show plainB _ 16 400 = true from by decide)) (R32 W.heap.size b1 me na m c DB OR ST PB tag) R32_stable ?_ ?_
    · intro i o ho a wz hbz hev hR
      have e1 : a.eval (.tmp 1) = .int .u8 b1 := hev 1 (by decide)
      have e21 : a.eval (.tmp 21) = .int .i64 na := hev 21 (by decide)
      have e23 : a.eval (.tmp 23) = .slice (some ⟨DB, 0, none⟩) m m := hev 23 (by decide)
      have e30 : a.eval (.tmp 30) = .pointer (some ⟨OR, 0, none⟩) := hev 30 (by decide)
      have e31 : a.eval (.tmp 31) = .int .i64 c := hev 31 (by decide)
      have e8 : a.eval (.tmp 8) = .int .i64 tag := hev 8 (by decide)
      have e24 : a.eval (.tmp 24) = .slice (some ⟨ST, 0, none⟩) m m := hev 24 (by decide)
      have e25 : a.eval (.tmp 25) = .slice (some ⟨PB, 0, none⟩) m m := hev 25 (by decide)
      clear hev
      have hi : i < 16 := (Array.getElem?_eq_some_iff.1 ho).1
      have hc : i = 0 ∨ i = 1 ∨ i = 2 ∨ i = 3 ∨ i = 4 ∨ i = 5 ∨ i = 6 ∨ i = 7 ∨ i = 8 ∨ i = 9 ∨ i = 10 ∨ i = 11 ∨ i = 12 ∨ i = 13 ∨ i = 14 ∨ i = 15 := by omega
      rcases hc with rfl | rfl | rfl | rfl | rfl | rfl | rfl | rfl | rfl | rfl | rfl | rfl | rfl | rfl | rfl | rfl
      · cases ho
        exact ⟨_, wz, by simp [execOp, e1], Below.refl _ _, rfl⟩
      · cases ho
        have f : a.eval (.tmp 161) = .int .u8 b1 := hR ⟨0, .data⟩ (by simp) rfl 161 rfl
        refine ⟨.int .i64 b1, wz, ?_, Below.refl _ _, rfl⟩
        simp [Act.eval] at f
        simp [execOp, f, go_sem]
        simp [IntKind.wrap, IntKind.signed, IntKind.bits]
        omega
      · cases ho
        exact ⟨_, wz, by simp [execOp, e21], Below.refl _ _, rfl⟩
      · cases ho
        have f : a.eval (.tmp 162) = .int .i64 b1 := hR ⟨1, .data⟩ (by simp) rfl 162 rfl
        have f2 : a.eval (.tmp 163) = .int .i64 na := hR ⟨2, .data⟩ (by simp) rfl 163 rfl
        refine ⟨.int .i64 me, wz, ?_, Below.refl _ _, rfl⟩
        simp [Act.eval] at f f2
        have z5 : ¬ na = 0 := by omega
        have ht : ((b1 : Nat) : Int).tmod (na : Int) = (me : Int) := by rw [Int.tmod_eq_emod_of_nonneg (by omega)]; exact hmI
        simp [execOp, f, f2, go_sem, z5, ht]
      · cases ho
        exact ⟨_, wz, by simp [execOp, e21], Below.refl _ _, rfl⟩
      · cases ho
        exact ⟨_, wz, by simp [execOp, e23], Below.refl _ _, rfl⟩
      · cases ho
        exact ⟨_, wz, by simp [execOp, e30], Below.refl _ _, rfl⟩
      · cases ho
        exact ⟨_, wz, by simp [execOp, e31], Below.refl _ _, rfl⟩
      · cases ho
        exact ⟨_, wz, by simp [execOp, e8], Below.refl _ _, rfl⟩
      · cases ho
        exact ⟨_, wz, by simp [execOp, e24], Below.refl _ _, rfl⟩
      · cases ho
        exact ⟨_, wz, by simp [execOp, e25], Below.refl _ _, rfl⟩
      · cases ho
        exact ⟨_, wz, by simp [execOp, e21], Below.refl _ _, rfl⟩
      · cases ho
        have f : a.eval (.tmp 172) = .int .i64 na := hR ⟨11, .data⟩ (by simp) rfl 172 rfl
        refine ⟨.slice (some ⟨wz.heap.size, 0, none⟩) na na, wz.alloc (.cells (madeCells #[.int .i64 0] na) 3), ?_, (Below.refl _ _).alloc (Nat.le_refl _) _, wz.heap.size, rfl, (cells_mk _ _ _ _).congr ?_, hbz.size⟩
        · simp [Act.eval] at f
          simp [execOp, f, hmk, go_sem]
        · intro i _
          simp [Nat.mod_one, atC]
      · cases ho
        have f0 : a.eval (.tmp 164) = .int .i64 me := hR ⟨3, .data⟩ (by simp) rfl 164 rfl
        have f1 : a.eval (.tmp 165) = .int .i64 na := hR ⟨4, .data⟩ (by simp) rfl 165 rfl
        have f2 : a.eval (.tmp 166) = .slice (some ⟨DB, 0, none⟩) m m := hR ⟨5, .data⟩ (by simp) rfl 166 rfl
        have f6 : a.eval (.tmp 167) = .pointer (some ⟨OR, 0, none⟩) := hR ⟨6, .data⟩ (by simp) rfl 167 rfl
        have f8 : a.eval (.tmp 168) = .int .i64 c := hR ⟨7, .data⟩ (by simp) rfl 168 rfl
        have f9 : a.eval (.tmp 169) = .int .i64 tag := hR ⟨8, .data⟩ (by simp) rfl 169 rfl
        have f11 : a.eval (.tmp 170) = .slice (some ⟨ST, 0, none⟩) m m := hR ⟨9, .data⟩ (by simp) rfl 170 rfl
        have f12 : a.eval (.tmp 171) = .slice (some ⟨PB, 0, none⟩) m m := hR ⟨10, .data⟩ (by simp) rfl 171 rfl
        obtain ⟨JA, f26, hJ, hJ2⟩ : R32 W.heap.size b1 me na m c DB OR ST PB tag 12 (a.eval (.tmp 173)) wz := hR ⟨12, .data⟩ (by simp) rfl 173 rfl
        refine ⟨.agg (agB me na m c DB OR ST PB JA tag), wz, ?_, Below.refl _ _, JA, rfl, hJ, hJ2⟩
        simp [Act.eval] at f0 f1 f2 f6 f8 f9 f11 f12 f26
        simp [execOp, f0, f1, f2, f6, f8, f9, f11, f12, f26, go_sem, agB]
      · cases ho
        obtain ⟨JA, f, hJ, hJ2⟩ : R32 W.heap.size b1 me na m c DB OR ST PB tag 13 (a.eval (.tmp 174)) wz := hR ⟨13, .data⟩ (by simp) rfl 174 rfl
        have hal : Below wz.heap.size wz (wz.alloc (.cells (agB me na m c DB OR ST PB JA tag) 53)) := (Below.refl _ _).alloc (Nat.le_refl _) _
        refine ⟨.pointer (some ⟨wz.heap.size, 0, none⟩), wz.alloc (.cells (agB me na m c DB OR ST PB JA tag) 53), ?_, hal, wz.heap.size, JA, rfl, fun i hi => ?_, hJ.later hal, hJ2, hJ.lt⟩
        · simp [Act.eval] at f
          simp [execOp, f, go_sem, Value.cells]
        · rw [World.cell?_alloc_at _ _ _ i rfl]
          have hs : (agB me na m c DB OR ST PB JA tag).size = 50 := rfl
          simp [hs, hi]
      · cases ho
        have hx : R32 W.heap.size b1 me na m c DB OR ST PB tag 14 (a.eval (.tmp 175)) wz := hR ⟨14, .data⟩ (by simp) rfl 175 rfl
        exact ⟨a.eval (.tmp 175), wz, by simp [execOp], Below.refl _ _, hx⟩
    · intro x wz hbz hx
      obtain ⟨AG, JA, f, hag0, hJ, hJ2, hJ3⟩ : R32 W.heap.size b1 me na m c DB OR ST PB tag 15 (x 15) wz := hx 15 (by omega)
      simp only [chainAll, Act.put]
      simp
      go_wp2_with fail
      go_meet
      exact ⟨AG, JA, by first | rfl | exact f, hag0, ⟨hJ, hJ2, hJ3⟩, hbz⟩
  case rest =>
  obtain ⟨AG, JA, rfl, hAg, ⟨hJ, hJ2, hJ3⟩, hb5⟩ := hcut
  obtain ⟨W5, rfl⟩ : ∃ x, x = wc := ⟨wc, rfl⟩
  have hM := HI.out.1
  have hO := HI.out.2.1
  obtain ⟨ho1, ho2⟩ := ord_facts (rot := rot) (rev := rev) (show 1 ≤ na by omega) hna
  have hDl := hM.d.lt
  have hSl := hM.s.lt
  have hPl := hM.p.lt
  have hAl := hO.ag.lt
  have hQl := hO.pos.lt
  have hmn : min m n5 = n5 := by have := HMM.out; omega
  have hS5 : Cells W5 ST (m * 2) (stC LB L has n5) := by
    have := hM.s.later hb5
    rwa [hmn] at this
  have hRk : RkIn AG OR P na (rkTo na rot rev na) W5 := ⟨hAg 6 (by omega), cell_later hb5 hO.o3, fun k hk => by rw [cell_later hb5 (hO.pos.cell k hk), posTo_rk], fun k hk => (ho2 k hk).1⟩
  have hUn : UnIn AG ST JA OR P na m (rkTo na rot rev na) (hsX n5 has) (lpX n5 LB) (lnX n5 L) (lnX n5 L) (fun i => (L i).as na) W5 := by
    refine ⟨hAg 11 (by omega), hAg 26 (by omega), fun i hi => st_cell hS5 hi, fun i hi => ?_, hJ, hRk, by omega, by omega, by omega, by omega⟩
    by_cases e : i < n5
    · obtain ⟨r1, r2, r3⟩ := hM.l i hi e
      refine ⟨⟨fun _ => ⟨LB i, by simp [lpX, e], Nat.lt_of_lt_of_le r2 hb5.size, by omega, fun j hj => ?_⟩⟩, by simp only [lnX, e, if_true]; exact HI.out.2.2.2.1 i e, fun j hj => Nat.mod_lt _ hna0⟩
      simp only [lnX, e, if_true] at hj
      exact cell_later hb5 (r3 j hj)
    · refine ⟨⟨fun hn => ?_⟩, by simp [lnX, e], fun j hj => Nat.mod_lt _ hna0⟩
      simp [lnX, e] at hn
  have hOk : OkI2 AG ST JA OR P DB PB na m c (rkTo na rot rev na) (hsX n5 has) pv (lpX n5 LB) (lnX n5 L) (lnX n5 L) (fun i => (L i).as na) (dv c) tag W5 := by
    refine ⟨hUn, hAg 2 (by omega), hAg 8 (by omega), hAg 9 (by omega), hAg 12 (by omega), hAg 15 (by omega), ?_, fun i hi => ?_, by omega, by omega⟩
    · rw [cell_later hb5 (hM.d.cell c hcl)]
      simp [toG, hcl]
    · rw [cell_later hb5 (hM.p.cell i hi)]
      simp [toG, hi]
  have hinj : ∀ a b, a < na → b < na → rkTo na rot rev na a = rkTo na rot rev na b → a = b := fun a b ha hb e => by
    have h1 := (ho2 a ha).2
    have h2 := (ho2 b hb).2
    rw [e] at h1
    exact h1.symm.trans h2
  have HOk : Hid (OkI2 AG ST JA OR P DB PB na m c (rkTo na rot rev na) (hsX n5 has) pv (lpX n5 LB) (lnX n5 L) (lnX n5 L) (fun i => (L i).as na) (dv c) tag W5 ∧ (∀ a b, a < na → b < na → rkTo na rot rev na a = rkTo na rot rev na b → a = b) ∧ Below W.heap.size W W5 ∧ W5.cell? ⟨AG, 26, none⟩ = some (.slice (some ⟨JA, 0, none⟩) na na)) := ⟨hOk, hinj, hb5, hAg 26 (by omega)⟩
  clear hAg hJ hb5 hS5 hRk hUn hOk hinj hmk hM hO
  go_upto_region 33 with fail
  go_cut [33] from 176 to 177 (fun s wx => ∃ R sp sc g n, s = .pointer (some ⟨R, 0, none⟩) ∧ OkOut JA na OR (sizeTo (hsX n5 has) pv m) (rkTo na rot rev na) (dv c) tag (fun k => bestAll k (hsX n5 has) (lnX n5 L) (fun i => (L i).as na) m) R sp sc g n W5 wx)
  case first =>
    go_wp2_with fail
    refine (ok_any AG ST JA OR P DB PB na m c (rkTo na rot rev na) (hsX n5 has) pv (lpX n5 LB) (lnX n5 L) (lnX n5 L) (fun i => (L i).as na) (dv c) tag W5 HOk.out.1 HOk.out.2.1 hm301 hna hcl).mono ?_
    rintro e wx ⟨R, sp, sc, g, n, rfl, hOo⟩
    go_wp2_with fail
    go_meet
    exact ⟨R, sp, sc, g, n, rfl, hOo⟩
  case rest =>
  obtain ⟨R, sp, sc, g, n, rfl, hOo⟩ := hcut
  apply_assumption
  have hM := HI.out.1
  have hO := HI.out.2.1
  have hb5 := HOk.out.2.2.1
  have hok := HOk.out.1.good hOo.good
  have hkp := hOo.good.kp
  have hbJ : Below W.heap.size W wc := hb5.trans (hkp.below hb5.size (fun b e => by rw [e]; exact hJ2))
  refine bok_34 AG JA OR OA DB ST PB R na m n5 c5 c n sc p5 sp (rkTo na rot rev na) (ordAt na rot rev) has (hsX n5 has) pv LB L (lpX n5 LB) (lnX n5 L) (lnX n5 L) (fun i => (L i).as na) g (dv c) tag w wc ?_ HMM.out h5 hna0 hna hcl (HI.out.2.2.2.2.trans (hbJ.mono HI.out.2.2.2.2.size)) _ _ _ _ _ _ _ _ _ _ _ _ _ _ _ _ _ _ _ _ _ _ _ _ _ _ _ _ _ _ _ _ _ _ _ _ _ _ _ _ _ _ _ _ _ _ _ _ _ _ _ _ _ _ _ _ _ _ _ _ _ _ _ _ _ _ _ _ _ _ _ _ _ _ _ _ _ _ _ _ _ _ _ _ _ _ _ _ _ _ _ _ _ _ _ _ _ _ _ _ _ _ _ _ _ _ _ _ _ _ _ _ _ _ _ _ _ _ _ _ _ _ _ _ _ _ _ _ _ _ _ _ _ _ _ _ _ _ _ _ _ _ _ _ _ _ _ _ _ _ _ _ _ _ _ _ _ _ _ _ _ _ _ _ _ _ _ _ _ _ _ _ _ _ _ _ _ _ _ _ _ _ _ _ _ _ _ _ _ _ _ _ _ _ _ _ _ _ _ _ _ _ _ _ _ _ _ _ _ _ _ _ _ _ _ _ _ _ _ _ _ _ _ _ _ _ _ _ _ _ _ _ _ _ _ _ _ _ _ _ _ _ _ _ _ _ _ _ _ _ _ _ _ _ _ _ _ _ _ _ _ _ _ _ _ _ _ _ _ _ _ _ _ _ _ _ _ _ _ _ _ _ _ _ _ _ _ _ _ _ _ _ _ _ _ _ _ _ _ _ _ _ _ _ _ _ _ _ _ _ _ _ _ _ _ _ _ _ _ _ _ _ _ _ _ _ _ _ _ _ _ _ _ _ _ _ _ _ _ _ _ _ _ _ _ _ _ _ _ _ _ _ _ _ _ _ _ _ _ _ _ _ _ _ _ _ _ _ _ _ _ _ _ _ _ _ _ _ _ _ _ _ _ _ _ _ _ _ _
  refine ⟨hOo.c, hOo.nil, fun hn => ?_, hOo.j, hOo.s, hok.d, hok.p, ⟨fun i hi => ?_, ?_, fun i hi j hj => ?_⟩, ⟨hok.un.st, fun i hi => ⟨(hok.un.more i hi).2.1, fun hn => ?_⟩⟩, HI.out.2.2.1.later (HI.out.2.2.2.2.trans (hbJ.mono HI.out.2.2.2.2.size)), HI.out.2.2.2.1, cell_later hbJ hO.o0, fun p hp => ?_, ho1, ho2, hkp.cell (p := ⟨AG, 26, none⟩) (by show ¬ AG = JA; omega) HOk.out.2.2.2, hOo.good.z⟩
  · obtain ⟨M, e, _, hc⟩ := hOo.pos hn
    exact ⟨M, e, hc⟩
  · have := hok.un.st i (by have := HMM.out; omega)
    simp only [lpX, lnX, hsX, hi, if_true, decide_true, Bool.true_and] at this
    exact this
  · have := hok.un.st n5 (by have := HMM.out; omega)
    simp [lpX, lnX, hsX] at this
    exact this
  · obtain ⟨r1, r2, r3⟩ := hM.l i (by have := HMM.out; omega) hi
    exact cell_later hbJ (r3 j hj)
  · obtain ⟨M, e, _, _, hc⟩ := (hok.un.more i hi).1.pos hn
    exact ⟨M, e, hc⟩
  · rw [cell_later hbJ (hO.ag.cell p hp)]
    simp [agTo, hp]
end Go.Proofs.Ybulkclmc
