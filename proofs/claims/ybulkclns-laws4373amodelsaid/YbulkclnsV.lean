import Derived.Test.YbulkclnsU
import Derived.LaidEqlPtr
namespace Go.Proofs.Ybulkclns
open Go.RowKit

theorem neq33 (O : Nat) (w : World) : (binOp .neq 33 (.pointer (some ⟨O, 0, none⟩)) (.pointer (some ⟨O, 0, none⟩))).run Yba.prog w = .ok (.bool false) w := by
  obtain ⟨j, hj⟩ : ∃ j, Yba.prog.info? 73 = some j := Option.isSome_iff_exists.1 (by kernel_rfl)
  have h : ∀ d : Nat, (Op.equalIn (d + 1) 33 (.pointer (some ⟨O, 0, none⟩)) (.pointer (some ⟨O, 0, none⟩))).run Yba.prog w = .ok true w := fun d => by
    simp [Op.equalIn, run_underlying Yba.underlying33, sizeOf, typeInfo, hj, run_sameAddr_same]
  simp only [binOp]
  simp [Op.equal, Op.maxDepth, h 9999]

def shTo (f : Nat → Int) (fi : Nat) (was : Int) : Nat → Bool
  | 0 => false
  | j + 1 => shTo f fi was j || (decide (¬ j = fi) && decide (f j = was))

set_option maxRecDepth 1000000 in
set_option maxHeartbeats 4000000 in
theorem mod_46 (F0 kk fi : Nat) (f : Nat → Int) (was : Int) (W : World) (hC : Cells W F0 kk (fun i => .int .i64 (f i))) (hk : kk ≤ 6) (Q : Exit → Act → World → Prop)
    (x0 x1 x2 x3 x4 x5 x6 x7 x8 x9 x10 x11 x12 x15 x16 x17 x19 x20 x21 x22 x23 x24 x25 x26 x27 x28 x29 x30 x31 x32 x33 x34 x35 x39 x40 x41 x42 x43 x44 x45 x46 x47 x48 x49 x50 x51 x52 x53 x54 x55 x56 x57 x58 x59 x60 x61 x62 x63 x64 x65 x66 x67 x68 x69 x70 x71 x72 x73 x74 x75 x76 x77 x78 x79 x80 x81 x82 x83 x84 x85 x86 x87 x88 x89 x90 x91 x92 x93 x94 x95 x96 x97 x98 x99 x100 x101 x102 x103 x104 x105 x106 x107 x108 x109 x110 x111 x112 x113 x114 x115 x116 x117 x118 x119 x120 x121 x122 x123 x124 x125 x126 x127 x128 x129 x130 x131 x132 x133 x134 x135 x136 x137 x138 x139 x140 x141 x142 x143 x144 x145 x146 x147 x148 x149 x150 x151 x152 x153 x154 x155 x156 x157 x158 x159 x160 x161 x162 x163 x164 x165 x166 x167 x168 x169 x170 x171 x172 x173 x174 x175 x176 x177 x178 x179 x180 x181 x182 x183 x184 x185 x186 x187 x188 x189 x190 x191 x192 x193 x194 x195 x196 x197 x198 x199 x200 x201 x202 x203 x204 x205 x206 x207 x208 x209 x210 x211 x212 x213 x214 x215 x216 x217 x218 x219 x220 x221 x222 x223 x224 x225 x226 x227 x228 x229 x230 x231 x232 x233 x234 x235 x236 x237 x238 x239 x240 x241 x242 x243 x244 x245 x246 x247 x248 x249 x250 x251 x252 x253 x254 x255 x256 x257 x258 x259 x260 x261 x262 x263 x264 x265 x266 x267 x268 x269 x270 x271 x272 x273 x274 x275 x276 x277 x278 x279 x280 x281 x282 x283 x284 x285 x286 x287 x288 x289 x290 x291 x292 x293 x294 x295 x296 x297 x298 x299 x300 x301 x302 x303 x304 x305 x306 x307 x308 x309 x310 x311 x312 x313 x314 x315 x316 x317 x318 x319 x320 x321 x322 x323 x324 x325 x326 x327 x328 x329 x330 x331 x332 x333 x334 x335 : Value) (hK : ∀ (wc : World) (y38 y167 y168 y169 y170 y171 y172 y173 y174 y175 y176 y177 y178 y179 y180 y181 y182 : Value), wc = W → Q .normal ⟨#[x0, x1, x2, x3, x4, x5, x6, x7, x8, x9, x10, x11, x12, .int .i64 kk, .int .i64 fi, x15, x16, x17, .slice (some ⟨F0, 0, none⟩) kk kk, x19, x20, x21, x22, x23, x24, x25, x26, x27, x28, x29, x30, x31, x32, x33, x34, x35, .int .i64 was, .bool (shTo f fi was kk), y38, x39, x40, x41, x42, x43, x44, x45, x46, x47, x48, x49, x50, x51, x52, x53, x54, x55, x56, x57, x58, x59, x60, x61, x62, x63, x64, x65, x66, x67, x68, x69, x70, x71, x72, x73, x74, x75, x76, x77, x78, x79, x80, x81, x82, x83, x84, x85, x86, x87, x88, x89, x90, x91, x92, x93, x94, x95, x96, x97, x98, x99, x100, x101, x102, x103, x104, x105, x106, x107, x108, x109, x110, x111, x112, x113, x114, x115, x116, x117, x118, x119, x120, x121, x122, x123, x124, x125, x126, x127, x128, x129, x130, x131, x132, x133, x134, x135, x136, x137, x138, x139, x140, x141, x142, x143, x144, x145, x146, x147, x148, x149, x150, x151, x152, x153, x154, x155, x156, x157, x158, x159, x160, x161, x162, x163, x164, x165, x166, y167, y168, y169, y170, y171, y172, y173, y174, y175, y176, y177, y178, y179, y180, y181, y182, x183, x184, x185, x186, x187, x188, x189, x190, x191, x192, x193, x194, x195, x196, x197, x198, x199, x200, x201, x202, x203, x204, x205, x206, x207, x208, x209, x210, x211, x212, x213, x214, x215, x216, x217, x218, x219, x220, x221, x222, x223, x224, x225, x226, x227, x228, x229, x230, x231, x232, x233, x234, x235, x236, x237, x238, x239, x240, x241, x242, x243, x244, x245, x246, x247, x248, x249, x250, x251, x252, x253, x254, x255, x256, x257, x258, x259, x260, x261, x262, x263, x264, x265, x266, x267, x268, x269, x270, x271, x272, x273, x274, x275, x276, x277, x278, x279, x280, x281, x282, x283, x284, x285, x286, x287, x288, x289, x290, x291, x292, x293, x294, x295, x296, x297, x298, x299, x300, x301, x302, x303, x304, x305, x306, x307, x308, x309, x310, x311, x312, x313, x314, x315, x316, x317, x318, x319, x320, x321, x322, x323, x324, x325, x326, x327, x328, x329, x330, x331, x332, x333, x334, x335], []⟩ wc) :
    Code.wp Yba.prog (loopIn (codeAt Yba.f3 46)) (Exit.inBlock (blkNo (codeAt Yba.f3 46)) Q) ⟨#[x0, x1, x2, x3, x4, x5, x6, x7, x8, x9, x10, x11, x12, .int .i64 kk, .int .i64 fi, x15, x16, x17, .slice (some ⟨F0, 0, none⟩) kk kk, x19, x20, x21, x22, x23, x24, x25, x26, x27, x28, x29, x30, x31, x32, x33, x34, x35, .int .i64 was, .bool false, .int .i64 0, x39, x40, x41, x42, x43, x44, x45, x46, x47, x48, x49, x50, x51, x52, x53, x54, x55, x56, x57, x58, x59, x60, x61, x62, x63, x64, x65, x66, x67, x68, x69, x70, x71, x72, x73, x74, x75, x76, x77, x78, x79, x80, x81, x82, x83, x84, x85, x86, x87, x88, x89, x90, x91, x92, x93, x94, x95, x96, x97, x98, x99, x100, x101, x102, x103, x104, x105, x106, x107, x108, x109, x110, x111, x112, x113, x114, x115, x116, x117, x118, x119, x120, x121, x122, x123, x124, x125, x126, x127, x128, x129, x130, x131, x132, x133, x134, x135, x136, x137, x138, x139, x140, x141, x142, x143, x144, x145, x146, x147, x148, x149, x150, x151, x152, x153, x154, x155, x156, x157, x158, x159, x160, x161, x162, x163, x164, x165, x166, x167, x168, x169, x170, x171, x172, x173, x174, x175, x176, x177, x178, x179, x180, x181, x182, x183, x184, x185, x186, x187, x188, x189, x190, x191, x192, x193, x194, x195, x196, x197, x198, x199, x200, x201, x202, x203, x204, x205, x206, x207, x208, x209, x210, x211, x212, x213, x214, x215, x216, x217, x218, x219, x220, x221, x222, x223, x224, x225, x226, x227, x228, x229, x230, x231, x232, x233, x234, x235, x236, x237, x238, x239, x240, x241, x242, x243, x244, x245, x246, x247, x248, x249, x250, x251, x252, x253, x254, x255, x256, x257, x258, x259, x260, x261, x262, x263, x264, x265, x266, x267, x268, x269, x270, x271, x272, x273, x274, x275, x276, x277, x278, x279, x280, x281, x282, x283, x284, x285, x286, x287, x288, x289, x290, x291, x292, x293, x294, x295, x296, x297, x298, x299, x300, x301, x302, x303, x304, x305, x306, x307, x308, x309, x310, x311, x312, x313, x314, x315, x316, x317, x318, x319, x320, x321, x322, x323, x324, x325, x326, x327, x328, x329, x330, x331, x332, x333, x334, x335], []⟩ W := by
  have HK : Hid (∀ (wc : World) (y38 y167 y168 y169 y170 y171 y172 y173 y174 y175 y176 y177 y178 y179 y180 y181 y182 : Value), wc = W → Q .normal ⟨#[x0, x1, x2, x3, x4, x5, x6, x7, x8, x9, x10, x11, x12, .int .i64 kk, .int .i64 fi, x15, x16, x17, .slice (some ⟨F0, 0, none⟩) kk kk, x19, x20, x21, x22, x23, x24, x25, x26, x27, x28, x29, x30, x31, x32, x33, x34, x35, .int .i64 was, .bool (shTo f fi was kk), y38, x39, x40, x41, x42, x43, x44, x45, x46, x47, x48, x49, x50, x51, x52, x53, x54, x55, x56, x57, x58, x59, x60, x61, x62, x63, x64, x65, x66, x67, x68, x69, x70, x71, x72, x73, x74, x75, x76, x77, x78, x79, x80, x81, x82, x83, x84, x85, x86, x87, x88, x89, x90, x91, x92, x93, x94, x95, x96, x97, x98, x99, x100, x101, x102, x103, x104, x105, x106, x107, x108, x109, x110, x111, x112, x113, x114, x115, x116, x117, x118, x119, x120, x121, x122, x123, x124, x125, x126, x127, x128, x129, x130, x131, x132, x133, x134, x135, x136, x137, x138, x139, x140, x141, x142, x143, x144, x145, x146, x147, x148, x149, x150, x151, x152, x153, x154, x155, x156, x157, x158, x159, x160, x161, x162, x163, x164, x165, x166, y167, y168, y169, y170, y171, y172, y173, y174, y175, y176, y177, y178, y179, y180, y181, y182, x183, x184, x185, x186, x187, x188, x189, x190, x191, x192, x193, x194, x195, x196, x197, x198, x199, x200, x201, x202, x203, x204, x205, x206, x207, x208, x209, x210, x211, x212, x213, x214, x215, x216, x217, x218, x219, x220, x221, x222, x223, x224, x225, x226, x227, x228, x229, x230, x231, x232, x233, x234, x235, x236, x237, x238, x239, x240, x241, x242, x243, x244, x245, x246, x247, x248, x249, x250, x251, x252, x253, x254, x255, x256, x257, x258, x259, x260, x261, x262, x263, x264, x265, x266, x267, x268, x269, x270, x271, x272, x273, x274, x275, x276, x277, x278, x279, x280, x281, x282, x283, x284, x285, x286, x287, x288, x289, x290, x291, x292, x293, x294, x295, x296, x297, x298, x299, x300, x301, x302, x303, x304, x305, x306, x307, x308, x309, x310, x311, x312, x313, x314, x315, x316, x317, x318, x319, x320, x321, x322, x323, x324, x325, x326, x327, x328, x329, x330, x331, x332, x333, x334, x335], []⟩ wc) := hK
  clear hK
  conv => arg 2; whnf
  conv => arg 3; arg 1; whnf
  conv => arg 4; dsimp only
  have HC : Hid (Cells W F0 kk (fun i => .int .i64 (f i))) := hC
  clear hC
  go_loopw [37, 38] (fun s x wr => ∃ j : Nat, j ≤ kk ∧ x = .int .i64 j ∧ s = .bool (shTo f fi was j) ∧ wr = W) (fun _ x _ => kk - (intOf x).toNat)
  case atStart => exact ⟨0, Nat.zero_le _, rfl, rfl, rfl⟩
  case round =>
    obtain ⟨j, hj, rfl, rfl, rfl⟩ := hrel
    by_cases hlt : j < kk
    · have c0 := HC.out.cell j hlt
      have HS : Hid (shTo f fi was (j + 1) = (shTo f fi was j || (decide (¬ j = fi) && decide (f j = was)))) := rfl
      have i1 : (0 : Int) ≤ (j : Int) := by omega
      have i2 : (j : Int) < (kk : Int) := by omega
      generalize f j = y at *
      generalize shTo f fi was j = sb at *
      by_cases h1 : j = fi
      · have g1 : ((j : Int) != (fi : Int)) = false := by simp; omega
        have e : shTo f fi was (j + 1) = sb := by rw [HS.out]; simp [h1]
        have HE : Hid (shTo f fi was (j + 1) = sb) := e
        clear e HS h1
        go_wp2_with fail
        go_roundw
        case rel => exact ⟨j + 1, by omega, by go_num, by rw [HE.out], by simp⟩
        case measure => simp [intOf]; omega
      · have g1 : ((j : Int) != (fi : Int)) = true := by simp; omega
        by_cases h2 : y = was
        · have g2 : (y == was) = true := by simp [h2]
          have e : shTo f fi was (j + 1) = true := by rw [HS.out]; simp [h1, h2]
          have HE : Hid (shTo f fi was (j + 1) = true) := e
          clear e HS h1 h2
          go_wp2_with fail
          go_roundw
          case rel => exact ⟨j + 1, by omega, by go_num, by rw [HE.out], by simp⟩
          case measure => simp [intOf]; omega
        · have g2 : (y == was) = false := by simp; omega
          have e : shTo f fi was (j + 1) = sb := by rw [HS.out]; simp [h2]
          have HE : Hid (shTo f fi was (j + 1) = sb) := e
          clear e HS h1 h2
          go_wp2_with fail
          go_roundw
          case rel => exact ⟨j + 1, by omega, by go_num, by rw [HE.out], by simp⟩
          case measure => simp [intOf]; omega
    · obtain rfl : kk = j := by omega
      go_wp2_with fail
      exact HK.out _ _ _ _ _ _ _ _ _ _ _ _ _ _ _ _ _ _ rfl

set_option maxRecDepth 1000000 in
set_option maxHeartbeats 4000000 in
theorem mod_58 (N LM n nm n0 sc1 sc2 : Nat) (sp1 sp2 : Option Addr) (g : Nat → Int) (q : Nat → Nat) (M : Int → Option Nat) (W : World) (hk1 : 0 < n → ∃ b, sp1 = some ⟨b, 0, none⟩ ∧ ∀ i, i < n → W.cell? ⟨b, i, none⟩ = some (.int .i64 (g i))) (hk2 : 0 < n → ∃ b, sp2 = some ⟨b, 0, none⟩ ∧ ∀ i, i < n → W.cell? ⟨b, i, none⟩ = some (.pointer (some ⟨q i, 0, none⟩))) (h14 : W.cell? ⟨N, 14, none⟩ = some (.map (some LM))) (hM : MapP W LM M nm n0) (hr : ∀ i, i < n → 0 ≤ g i ∧ g i ≤ 100000) (hn : n ≤ 1024) (hq : ∀ i, i < n → M (g i) = some (q i)) (Q : Exit → Act → World → Prop)
    (x0 x1 x2 x3 x4 x5 x6 x7 x8 x9 x10 x11 x12 x13 x14 x15 x16 x17 x18 x19 x20 x21 x22 x23 x25 x26 x27 x28 x29 x31 x32 x33 x34 x35 x36 x37 x38 x39 x40 x41 x42 x43 x44 x45 x46 x47 x48 x49 x50 x51 x52 x53 x54 x55 x56 x57 x58 x59 x60 x61 x62 x63 x64 x65 x66 x67 x68 x69 x70 x71 x72 x73 x74 x75 x76 x77 x78 x79 x80 x81 x82 x83 x84 x85 x86 x87 x88 x89 x90 x91 x92 x93 x94 x95 x96 x97 x98 x99 x100 x101 x102 x103 x104 x105 x106 x107 x108 x109 x110 x111 x112 x113 x114 x115 x116 x117 x118 x119 x120 x121 x122 x123 x124 x125 x126 x127 x128 x129 x130 x131 x132 x133 x134 x135 x136 x137 x138 x139 x140 x141 x142 x143 x144 x145 x146 x147 x148 x149 x150 x151 x152 x153 x154 x155 x156 x157 x158 x159 x160 x161 x162 x163 x164 x165 x166 x167 x168 x169 x170 x171 x172 x173 x174 x175 x176 x177 x178 x179 x180 x181 x182 x183 x184 x185 x186 x187 x188 x189 x190 x191 x192 x193 x194 x195 x196 x197 x198 x199 x200 x201 x202 x203 x204 x205 x206 x207 x208 x209 x210 x214 x215 x216 x217 x218 x219 x220 x221 x222 x223 x224 x225 x226 x227 x228 x229 x230 x231 x232 x233 x234 x235 x236 x237 x238 x239 x240 x241 x242 x243 x244 x245 x246 x247 x248 x249 x250 x251 x252 x253 x254 x255 x256 x257 x258 x259 x260 x261 x262 x263 x264 x265 x266 x267 x268 x269 x270 x271 x272 x273 x274 x275 x276 x277 x278 x279 x280 x281 x282 x283 x284 x285 x286 x287 x288 x289 x290 x291 x292 x293 x294 x295 x296 x297 x298 x299 x300 x301 x302 x303 x304 x305 x306 x307 x308 x309 x310 x311 x312 x313 x314 x315 x316 x317 x318 x319 x320 x321 x322 x323 x324 x325 x326 x327 x328 x329 x330 x331 x332 x333 x334 x335 : Value) (hK : ∀ (wc : World) (y12 y39 y40 y213 y214 y215 y216 y217 y218 y219 y220 y221 y222 y223 y224 y225 y226 y227 y228 y229 : Value), Below W.heap.size W wc → Q .normal ⟨#[x0, x1, x2, x3, x4, x5, x6, x7, x8, x9, x10, x11, y12, x13, x14, x15, x16, x17, x18, x19, x20, x21, x22, x23, .slice sp2 n sc2, x25, x26, x27, x28, x29, .pointer (some ⟨N, 0, none⟩), x31, x32, x33, x34, x35, x36, x37, x38, y39, y40, x41, x42, x43, x44, x45, x46, x47, x48, x49, x50, x51, x52, x53, x54, x55, x56, x57, x58, x59, x60, x61, x62, x63, x64, x65, x66, x67, x68, x69, x70, x71, x72, x73, x74, x75, x76, x77, x78, x79, x80, x81, x82, x83, x84, x85, x86, x87, x88, x89, x90, x91, x92, x93, x94, x95, x96, x97, x98, x99, x100, x101, x102, x103, x104, x105, x106, x107, x108, x109, x110, x111, x112, x113, x114, x115, x116, x117, x118, x119, x120, x121, x122, x123, x124, x125, x126, x127, x128, x129, x130, x131, x132, x133, x134, x135, x136, x137, x138, x139, x140, x141, x142, x143, x144, x145, x146, x147, x148, x149, x150, x151, x152, x153, x154, x155, x156, x157, x158, x159, x160, x161, x162, x163, x164, x165, x166, x167, x168, x169, x170, x171, x172, x173, x174, x175, x176, x177, x178, x179, x180, x181, x182, x183, x184, x185, x186, x187, x188, x189, x190, x191, x192, x193, x194, x195, x196, x197, x198, x199, x200, x201, x202, x203, x204, x205, x206, x207, x208, x209, x210, .slice sp1 n sc1, .int .i64 n, y213, y214, y215, y216, y217, y218, y219, y220, y221, y222, y223, y224, y225, y226, y227, y228, y229, x230, x231, x232, x233, x234, x235, x236, x237, x238, x239, x240, x241, x242, x243, x244, x245, x246, x247, x248, x249, x250, x251, x252, x253, x254, x255, x256, x257, x258, x259, x260, x261, x262, x263, x264, x265, x266, x267, x268, x269, x270, x271, x272, x273, x274, x275, x276, x277, x278, x279, x280, x281, x282, x283, x284, x285, x286, x287, x288, x289, x290, x291, x292, x293, x294, x295, x296, x297, x298, x299, x300, x301, x302, x303, x304, x305, x306, x307, x308, x309, x310, x311, x312, x313, x314, x315, x316, x317, x318, x319, x320, x321, x322, x323, x324, x325, x326, x327, x328, x329, x330, x331, x332, x333, x334, x335], []⟩ wc) :
    Code.wp Yba.prog (loopIn (codeAt Yba.f3 58)) (Exit.inBlock (blkNo (codeAt Yba.f3 58)) Q) ⟨#[x0, x1, x2, x3, x4, x5, x6, x7, x8, x9, x10, x11, x12, x13, x14, x15, x16, x17, x18, x19, x20, x21, x22, x23, .slice sp2 n sc2, x25, x26, x27, x28, x29, .pointer (some ⟨N, 0, none⟩), x31, x32, x33, x34, x35, x36, x37, x38, x39, x40, x41, x42, x43, x44, x45, x46, x47, x48, x49, x50, x51, x52, x53, x54, x55, x56, x57, x58, x59, x60, x61, x62, x63, x64, x65, x66, x67, x68, x69, x70, x71, x72, x73, x74, x75, x76, x77, x78, x79, x80, x81, x82, x83, x84, x85, x86, x87, x88, x89, x90, x91, x92, x93, x94, x95, x96, x97, x98, x99, x100, x101, x102, x103, x104, x105, x106, x107, x108, x109, x110, x111, x112, x113, x114, x115, x116, x117, x118, x119, x120, x121, x122, x123, x124, x125, x126, x127, x128, x129, x130, x131, x132, x133, x134, x135, x136, x137, x138, x139, x140, x141, x142, x143, x144, x145, x146, x147, x148, x149, x150, x151, x152, x153, x154, x155, x156, x157, x158, x159, x160, x161, x162, x163, x164, x165, x166, x167, x168, x169, x170, x171, x172, x173, x174, x175, x176, x177, x178, x179, x180, x181, x182, x183, x184, x185, x186, x187, x188, x189, x190, x191, x192, x193, x194, x195, x196, x197, x198, x199, x200, x201, x202, x203, x204, x205, x206, x207, x208, x209, x210, .slice sp1 n sc1, .int .i64 n, .int .i64 0, x214, x215, x216, x217, x218, x219, x220, x221, x222, x223, x224, x225, x226, x227, x228, x229, x230, x231, x232, x233, x234, x235, x236, x237, x238, x239, x240, x241, x242, x243, x244, x245, x246, x247, x248, x249, x250, x251, x252, x253, x254, x255, x256, x257, x258, x259, x260, x261, x262, x263, x264, x265, x266, x267, x268, x269, x270, x271, x272, x273, x274, x275, x276, x277, x278, x279, x280, x281, x282, x283, x284, x285, x286, x287, x288, x289, x290, x291, x292, x293, x294, x295, x296, x297, x298, x299, x300, x301, x302, x303, x304, x305, x306, x307, x308, x309, x310, x311, x312, x313, x314, x315, x316, x317, x318, x319, x320, x321, x322, x323, x324, x325, x326, x327, x328, x329, x330, x331, x332, x333, x334, x335], []⟩ W := by
  have HK : Hid (∀ (wc : World) (y12 y39 y40 y213 y214 y215 y216 y217 y218 y219 y220 y221 y222 y223 y224 y225 y226 y227 y228 y229 : Value), Below W.heap.size W wc → Q .normal ⟨#[x0, x1, x2, x3, x4, x5, x6, x7, x8, x9, x10, x11, y12, x13, x14, x15, x16, x17, x18, x19, x20, x21, x22, x23, .slice sp2 n sc2, x25, x26, x27, x28, x29, .pointer (some ⟨N, 0, none⟩), x31, x32, x33, x34, x35, x36, x37, x38, y39, y40, x41, x42, x43, x44, x45, x46, x47, x48, x49, x50, x51, x52, x53, x54, x55, x56, x57, x58, x59, x60, x61, x62, x63, x64, x65, x66, x67, x68, x69, x70, x71, x72, x73, x74, x75, x76, x77, x78, x79, x80, x81, x82, x83, x84, x85, x86, x87, x88, x89, x90, x91, x92, x93, x94, x95, x96, x97, x98, x99, x100, x101, x102, x103, x104, x105, x106, x107, x108, x109, x110, x111, x112, x113, x114, x115, x116, x117, x118, x119, x120, x121, x122, x123, x124, x125, x126, x127, x128, x129, x130, x131, x132, x133, x134, x135, x136, x137, x138, x139, x140, x141, x142, x143, x144, x145, x146, x147, x148, x149, x150, x151, x152, x153, x154, x155, x156, x157, x158, x159, x160, x161, x162, x163, x164, x165, x166, x167, x168, x169, x170, x171, x172, x173, x174, x175, x176, x177, x178, x179, x180, x181, x182, x183, x184, x185, x186, x187, x188, x189, x190, x191, x192, x193, x194, x195, x196, x197, x198, x199, x200, x201, x202, x203, x204, x205, x206, x207, x208, x209, x210, .slice sp1 n sc1, .int .i64 n, y213, y214, y215, y216, y217, y218, y219, y220, y221, y222, y223, y224, y225, y226, y227, y228, y229, x230, x231, x232, x233, x234, x235, x236, x237, x238, x239, x240, x241, x242, x243, x244, x245, x246, x247, x248, x249, x250, x251, x252, x253, x254, x255, x256, x257, x258, x259, x260, x261, x262, x263, x264, x265, x266, x267, x268, x269, x270, x271, x272, x273, x274, x275, x276, x277, x278, x279, x280, x281, x282, x283, x284, x285, x286, x287, x288, x289, x290, x291, x292, x293, x294, x295, x296, x297, x298, x299, x300, x301, x302, x303, x304, x305, x306, x307, x308, x309, x310, x311, x312, x313, x314, x315, x316, x317, x318, x319, x320, x321, x322, x323, x324, x325, x326, x327, x328, x329, x330, x331, x332, x333, x334, x335], []⟩ wc) := hK
  clear hK
  conv => arg 2; whnf
  conv => arg 3; arg 1; whnf
  conv => arg 4; dsimp only
  have HI : Hid ((0 < n → ∃ b, sp1 = some ⟨b, 0, none⟩ ∧ ∀ i, i < n → W.cell? ⟨b, i, none⟩ = some (.int .i64 (g i))) ∧ (0 < n → ∃ b, sp2 = some ⟨b, 0, none⟩ ∧ ∀ i, i < n → W.cell? ⟨b, i, none⟩ = some (.pointer (some ⟨q i, 0, none⟩))) ∧ W.cell? ⟨N, 14, none⟩ = some (.map (some LM)) ∧ MapP W LM M nm n0 ∧ (∀ i, i < n → 0 ≤ g i ∧ g i ≤ 100000) ∧ ∀ i, i < n → M (g i) = some (q i)) := ⟨hk1, hk2, h14, hM, hr, hq⟩
  clear hk1 hk2 h14 hM hr hq
  go_loopw [213] (fun x wr => ∃ i : Nat, i ≤ n ∧ x = .int .i64 i ∧ Below W.heap.size W wr) (fun x _ => n - (intOf x).toNat)
  case atStart => exact ⟨0, Nat.zero_le _, rfl, Below.refl _ _⟩
  case round =>
    obtain ⟨i, hi, rfl, hb⟩ := hrel
    by_cases hlt : i < n
    · obtain ⟨a1, a2, a3, a4, a5, a6⟩ := HI.out
      obtain ⟨b1, e, c1⟩ := a1 (by omega)
      cases e
      obtain ⟨b2, e, c2⟩ := a2 (by omega)
      cases e
      have x1 := cell_later hb (c1 i hlt)
      have x2 := cell_later hb (c2 i hlt)
      have x3 := cell_later hb a3
      have hlk : ∀ t, (Instr.lookup 30 (.map (some LM)) (.int .i64 (g i)) false).run Yba.prog (wr.drewN t) = .ok (.pointer (some ⟨q i, 0, none⟩)) (wr.drewN t) := fun t => by
        have := ((a4.later hb).later (bl_drewN (Below.refl _ _) t)).look (wf64 (a5 i hlt).1 (by have := (a5 i hlt).2; omega)) (Yba.zeroValue33 _)
        rw [a6 i hlt] at this
        exact this
      have q1 := neq33 (q i)
      have i1 : (0 : Int) ≤ (i : Int) := by omega
      have i2 : (i : Int) < (n : Int) := by omega
      clear a1 a2 a3 a4 a5 a6 c1 c2
      generalize g i = gk at *
      generalize q i = qk at *
      go_upto_region 60 with fail
      go_quiet (fail)
      go_wp2_with fail
      go_roundw
      case rel => exact ⟨i + 1, by omega, by go_num, bl_drewN hb _⟩
      case measure => simp [intOf]; omega
    · obtain rfl : n = i := by omega
      go_wp2_with fail
      exact HK.out _ _ _ _ _ _ _ _ _ _ _ _ _ _ _ _ _ _ _ _ _ hb

set_option maxRecDepth 1000000 in
set_option maxHeartbeats 4000000 in
theorem mod_68 (N LM n nm n0 sc1 sc2 : Nat) (sp1 sp2 : Option Addr) (g : Nat → Int) (q : Nat → Nat) (M : Int → Option Nat) (gn : Int) (W : World) (hk1 : 0 < n → ∃ b, sp1 = some ⟨b, 0, none⟩ ∧ ∀ i, i < n → W.cell? ⟨b, i, none⟩ = some (.int .i64 (g i))) (hk2 : 0 < n → ∃ b, sp2 = some ⟨b, 0, none⟩ ∧ ∀ i, i < n → W.cell? ⟨b, i, none⟩ = some (.pointer (some ⟨q i, 0, none⟩))) (h14 : W.cell? ⟨N, 14, none⟩ = some (.map (some LM))) (hM : MapP W LM M nm n0) (hr : ∀ i, i < n → 0 ≤ g i ∧ g i ≤ 100000) (hn : n ≤ 1024) (hq : ∀ i, i < n → ¬ g i = gn → M (g i) = some (q i)) (hg : ∀ i, i < n → g i = gn → M gn = none) (hd : ∀ i j, i < n → j < n → g i = g j → i = j) (Q : Exit → Act → World → Prop)
    (x0 x1 x2 x3 x4 x5 x6 x7 x8 x9 x10 x11 x12 x13 x14 x15 x16 x17 x18 x19 x20 x21 x22 x23 x25 x26 x27 x28 x29 x31 x32 x33 x34 x36 x37 x38 x39 x40 x42 x43 x44 x45 x46 x47 x48 x49 x50 x51 x52 x53 x54 x55 x56 x57 x58 x59 x60 x61 x62 x63 x64 x65 x66 x67 x68 x69 x70 x71 x72 x73 x74 x75 x76 x77 x78 x79 x80 x81 x82 x83 x84 x85 x86 x87 x88 x89 x90 x91 x92 x93 x94 x95 x96 x97 x98 x99 x100 x101 x102 x103 x104 x105 x106 x107 x108 x109 x110 x111 x112 x113 x114 x115 x116 x117 x118 x119 x120 x121 x122 x123 x124 x125 x126 x127 x128 x129 x130 x131 x132 x133 x134 x135 x136 x137 x138 x139 x140 x141 x142 x143 x144 x145 x146 x147 x148 x149 x150 x151 x152 x153 x154 x155 x156 x157 x158 x159 x160 x161 x162 x163 x164 x165 x166 x167 x168 x169 x170 x171 x172 x173 x174 x175 x176 x177 x178 x179 x180 x181 x182 x183 x184 x185 x186 x187 x188 x189 x190 x191 x192 x193 x194 x195 x196 x197 x198 x199 x200 x201 x202 x203 x204 x205 x206 x207 x208 x209 x210 x211 x212 x213 x214 x215 x216 x217 x218 x219 x220 x221 x222 x223 x224 x225 x226 x227 x228 x229 x230 x231 x232 x233 x234 x235 x236 x237 x238 x239 x240 x241 x242 x243 x247 x248 x249 x250 x251 x252 x253 x254 x255 x256 x257 x258 x259 x260 x261 x262 x263 x264 x265 x266 x267 x268 x269 x270 x271 x272 x273 x274 x275 x276 x277 x278 x279 x280 x281 x282 x283 x284 x285 x286 x287 x288 x289 x290 x291 x292 x293 x294 x295 x296 x297 x298 x299 x300 x301 x302 x303 x304 x305 x306 x307 x308 x309 x310 x311 x312 x313 x314 x315 x316 x317 x318 x319 x320 x321 x322 x323 x324 x325 x326 x327 x328 x329 x330 x331 x332 x333 x334 x335 : Value) (hK : ∀ (wc : World) (y12 y41 y42 y43 y44 y45 y246 y247 y248 y249 y250 y251 y252 y253 y254 y255 y256 y257 y258 y259 y260 y261 y262 y263 y264 y265 y266 y267 y268 y269 y270 y271 y272 y273 y274 y275 y276 y277 : Value), y41 = .int .i64 ((n : Int) - if (fnd g gn n).isSome then 1 else 0) ∧ Below W.heap.size W wc → Q .normal ⟨#[x0, x1, x2, x3, x4, x5, x6, x7, x8, x9, x10, x11, y12, x13, x14, x15, x16, x17, x18, x19, x20, x21, x22, x23, .slice sp2 n sc2, x25, x26, x27, x28, x29, .pointer (some ⟨N, 0, none⟩), x31, x32, x33, x34, .int .i64 gn, x36, x37, x38, x39, x40, y41, y42, y43, y44, y45, x46, x47, x48, x49, x50, x51, x52, x53, x54, x55, x56, x57, x58, x59, x60, x61, x62, x63, x64, x65, x66, x67, x68, x69, x70, x71, x72, x73, x74, x75, x76, x77, x78, x79, x80, x81, x82, x83, x84, x85, x86, x87, x88, x89, x90, x91, x92, x93, x94, x95, x96, x97, x98, x99, x100, x101, x102, x103, x104, x105, x106, x107, x108, x109, x110, x111, x112, x113, x114, x115, x116, x117, x118, x119, x120, x121, x122, x123, x124, x125, x126, x127, x128, x129, x130, x131, x132, x133, x134, x135, x136, x137, x138, x139, x140, x141, x142, x143, x144, x145, x146, x147, x148, x149, x150, x151, x152, x153, x154, x155, x156, x157, x158, x159, x160, x161, x162, x163, x164, x165, x166, x167, x168, x169, x170, x171, x172, x173, x174, x175, x176, x177, x178, x179, x180, x181, x182, x183, x184, x185, x186, x187, x188, x189, x190, x191, x192, x193, x194, x195, x196, x197, x198, x199, x200, x201, x202, x203, x204, x205, x206, x207, x208, x209, x210, x211, x212, x213, x214, x215, x216, x217, x218, x219, x220, x221, x222, x223, x224, x225, x226, x227, x228, x229, x230, x231, x232, x233, x234, x235, x236, x237, x238, x239, x240, x241, x242, x243, .slice sp1 n sc1, .int .i64 n, y246, y247, y248, y249, y250, y251, y252, y253, y254, y255, y256, y257, y258, y259, y260, y261, y262, y263, y264, y265, y266, y267, y268, y269, y270, y271, y272, y273, y274, y275, y276, y277, x278, x279, x280, x281, x282, x283, x284, x285, x286, x287, x288, x289, x290, x291, x292, x293, x294, x295, x296, x297, x298, x299, x300, x301, x302, x303, x304, x305, x306, x307, x308, x309, x310, x311, x312, x313, x314, x315, x316, x317, x318, x319, x320, x321, x322, x323, x324, x325, x326, x327, x328, x329, x330, x331, x332, x333, x334, x335], []⟩ wc) :
    Code.wp Yba.prog (loopIn (codeAt Yba.f3 68)) (Exit.inBlock (blkNo (codeAt Yba.f3 68)) Q) ⟨#[x0, x1, x2, x3, x4, x5, x6, x7, x8, x9, x10, x11, x12, x13, x14, x15, x16, x17, x18, x19, x20, x21, x22, x23, .slice sp2 n sc2, x25, x26, x27, x28, x29, .pointer (some ⟨N, 0, none⟩), x31, x32, x33, x34, .int .i64 gn, x36, x37, x38, x39, x40, .int .i64 n, x42, x43, x44, x45, x46, x47, x48, x49, x50, x51, x52, x53, x54, x55, x56, x57, x58, x59, x60, x61, x62, x63, x64, x65, x66, x67, x68, x69, x70, x71, x72, x73, x74, x75, x76, x77, x78, x79, x80, x81, x82, x83, x84, x85, x86, x87, x88, x89, x90, x91, x92, x93, x94, x95, x96, x97, x98, x99, x100, x101, x102, x103, x104, x105, x106, x107, x108, x109, x110, x111, x112, x113, x114, x115, x116, x117, x118, x119, x120, x121, x122, x123, x124, x125, x126, x127, x128, x129, x130, x131, x132, x133, x134, x135, x136, x137, x138, x139, x140, x141, x142, x143, x144, x145, x146, x147, x148, x149, x150, x151, x152, x153, x154, x155, x156, x157, x158, x159, x160, x161, x162, x163, x164, x165, x166, x167, x168, x169, x170, x171, x172, x173, x174, x175, x176, x177, x178, x179, x180, x181, x182, x183, x184, x185, x186, x187, x188, x189, x190, x191, x192, x193, x194, x195, x196, x197, x198, x199, x200, x201, x202, x203, x204, x205, x206, x207, x208, x209, x210, x211, x212, x213, x214, x215, x216, x217, x218, x219, x220, x221, x222, x223, x224, x225, x226, x227, x228, x229, x230, x231, x232, x233, x234, x235, x236, x237, x238, x239, x240, x241, x242, x243, .slice sp1 n sc1, .int .i64 n, .int .i64 0, x247, x248, x249, x250, x251, x252, x253, x254, x255, x256, x257, x258, x259, x260, x261, x262, x263, x264, x265, x266, x267, x268, x269, x270, x271, x272, x273, x274, x275, x276, x277, x278, x279, x280, x281, x282, x283, x284, x285, x286, x287, x288, x289, x290, x291, x292, x293, x294, x295, x296, x297, x298, x299, x300, x301, x302, x303, x304, x305, x306, x307, x308, x309, x310, x311, x312, x313, x314, x315, x316, x317, x318, x319, x320, x321, x322, x323, x324, x325, x326, x327, x328, x329, x330, x331, x332, x333, x334, x335], []⟩ W := by
  have HK : Hid (∀ (wc : World) (y12 y41 y42 y43 y44 y45 y246 y247 y248 y249 y250 y251 y252 y253 y254 y255 y256 y257 y258 y259 y260 y261 y262 y263 y264 y265 y266 y267 y268 y269 y270 y271 y272 y273 y274 y275 y276 y277 : Value), y41 = .int .i64 ((n : Int) - if (fnd g gn n).isSome then 1 else 0) ∧ Below W.heap.size W wc → Q .normal ⟨#[x0, x1, x2, x3, x4, x5, x6, x7, x8, x9, x10, x11, y12, x13, x14, x15, x16, x17, x18, x19, x20, x21, x22, x23, .slice sp2 n sc2, x25, x26, x27, x28, x29, .pointer (some ⟨N, 0, none⟩), x31, x32, x33, x34, .int .i64 gn, x36, x37, x38, x39, x40, y41, y42, y43, y44, y45, x46, x47, x48, x49, x50, x51, x52, x53, x54, x55, x56, x57, x58, x59, x60, x61, x62, x63, x64, x65, x66, x67, x68, x69, x70, x71, x72, x73, x74, x75, x76, x77, x78, x79, x80, x81, x82, x83, x84, x85, x86, x87, x88, x89, x90, x91, x92, x93, x94, x95, x96, x97, x98, x99, x100, x101, x102, x103, x104, x105, x106, x107, x108, x109, x110, x111, x112, x113, x114, x115, x116, x117, x118, x119, x120, x121, x122, x123, x124, x125, x126, x127, x128, x129, x130, x131, x132, x133, x134, x135, x136, x137, x138, x139, x140, x141, x142, x143, x144, x145, x146, x147, x148, x149, x150, x151, x152, x153, x154, x155, x156, x157, x158, x159, x160, x161, x162, x163, x164, x165, x166, x167, x168, x169, x170, x171, x172, x173, x174, x175, x176, x177, x178, x179, x180, x181, x182, x183, x184, x185, x186, x187, x188, x189, x190, x191, x192, x193, x194, x195, x196, x197, x198, x199, x200, x201, x202, x203, x204, x205, x206, x207, x208, x209, x210, x211, x212, x213, x214, x215, x216, x217, x218, x219, x220, x221, x222, x223, x224, x225, x226, x227, x228, x229, x230, x231, x232, x233, x234, x235, x236, x237, x238, x239, x240, x241, x242, x243, .slice sp1 n sc1, .int .i64 n, y246, y247, y248, y249, y250, y251, y252, y253, y254, y255, y256, y257, y258, y259, y260, y261, y262, y263, y264, y265, y266, y267, y268, y269, y270, y271, y272, y273, y274, y275, y276, y277, x278, x279, x280, x281, x282, x283, x284, x285, x286, x287, x288, x289, x290, x291, x292, x293, x294, x295, x296, x297, x298, x299, x300, x301, x302, x303, x304, x305, x306, x307, x308, x309, x310, x311, x312, x313, x314, x315, x316, x317, x318, x319, x320, x321, x322, x323, x324, x325, x326, x327, x328, x329, x330, x331, x332, x333, x334, x335], []⟩ wc) := hK
  clear hK
  conv => arg 2; whnf
  conv => arg 3; arg 1; whnf
  conv => arg 4; dsimp only
  have HI : Hid ((0 < n → ∃ b, sp1 = some ⟨b, 0, none⟩ ∧ ∀ i, i < n → W.cell? ⟨b, i, none⟩ = some (.int .i64 (g i))) ∧ (0 < n → ∃ b, sp2 = some ⟨b, 0, none⟩ ∧ ∀ i, i < n → W.cell? ⟨b, i, none⟩ = some (.pointer (some ⟨q i, 0, none⟩))) ∧ W.cell? ⟨N, 14, none⟩ = some (.map (some LM)) ∧ MapP W LM M nm n0 ∧ (∀ i, i < n → 0 ≤ g i ∧ g i ≤ 100000) ∧ (∀ i, i < n → ¬ g i = gn → M (g i) = some (q i)) ∧ (∀ i, i < n → g i = gn → M gn = none) ∧ ∀ i j, i < n → j < n → g i = g j → i = j) := ⟨hk1, hk2, h14, hM, hr, hq, hg, hd⟩
  clear hk1 hk2 h14 hM hr hq hg hd
  go_loopw [41, 246] (fun s x wr => ∃ i : Nat, i ≤ n ∧ x = .int .i64 i ∧ s = .int .i64 ((n : Int) - if (fnd g gn i).isSome then 1 else 0) ∧ Below W.heap.size W wr) (fun _ x _ => n - (intOf x).toNat)
  case atStart => exact ⟨0, Nat.zero_le _, rfl, by simp [fnd], Below.refl _ _⟩
  case round =>
    obtain ⟨i, hi, rfl, rfl, hb⟩ := hrel
    by_cases hlt : i < n
    · obtain ⟨a1, a2, a3, a4, a5, a6, a7, a8⟩ := HI.out
      obtain ⟨b1, e, c1⟩ := a1 (by omega)
      cases e
      obtain ⟨b2, e, c2⟩ := a2 (by omega)
      cases e
      have x1 := cell_later hb (c1 i hlt)
      have x2 := cell_later hb (c2 i hlt)
      have x3 := cell_later hb a3
      have i1 : (0 : Int) ≤ (i : Int) := by omega
      have i2 : (i : Int) < (n : Int) := by omega
      have hw := wf64 (a5 i hlt).1 (by have := (a5 i hlt).2; omega)
      by_cases hgn : g i = gn
      · have hf : fnd g gn i = none := by
          cases h : fnd g gn i with
          | none => rfl
          | some j =>
            have := fnd_some h
            have := a8 j i (by omega) hlt (by rw [this.2, hgn])
            omega
        have hf2 : fnd g gn (i + 1) = some i := by simp [fnd, hf, hgn]
        have HF : Hid (fnd g gn (i + 1) = some i) := hf2
        have hlk := (a4.later hb).look_ok hw (Yba.zeroValue33 _)
        have hMg := a7 i hlt hgn
        rw [hgn, hMg] at hlk
        simp only [ptr, Option.map_none, Option.isSome_none] at hlk
        rw [hgn] at x1
        have g1 : (gn == gn) = true := by simp
        have hv : ((n : Int) - if (fnd g gn i).isSome then 1 else 0) = (n : Int) := by rw [hf]; simp
        rw [hv]
        have hw1 : IntKind.i64.wrap ((n : Int) - 1) = (n : Int) - 1 := by simp [IntKind.wrap, IntKind.signed, IntKind.bits]; omega
        clear a1 a2 a3 a4 a5 a6 a7 a8 c1 c2 hf hf2 hMg hgn hv hw
        go_wp2_with fail
        go_roundw
        case rel => exact ⟨i + 1, by omega, by go_num, by rw [HF.out]; simp, hb⟩
        case measure => simp [intOf]; omega
      · have hf2 : fnd g gn (i + 1) = fnd g gn i := by
          simp only [fnd]
          cases h : fnd g gn i with
          | none => simp [hgn]
          | some j => rfl
        have HF : Hid (fnd g gn (i + 1) = fnd g gn i) := hf2
        have hlk : ∀ t, (Instr.lookup 30 (.map (some LM)) (.int .i64 (g i)) false).run Yba.prog (wr.drewN t) = .ok (.pointer (some ⟨q i, 0, none⟩)) (wr.drewN t) := fun t => by
          have := ((a4.later hb).later (bl_drewN (Below.refl _ _) t)).look hw (Yba.zeroValue33 _)
          rw [a6 i hlt hgn] at this
          exact this
        have q1 := neq33 (q i)
        have g1 : (g i == gn) = false := by simp [hgn]
        clear a1 a2 a3 a4 a5 a6 a7 a8 c1 c2 hf2 hw hgn
        generalize hsz : (n : Int) - (if (fnd g gn i).isSome then (1 : Int) else 0) = szv at *
        have HZ : Hid ((n : Int) - (if (fnd g gn i).isSome then (1 : Int) else 0) = szv) := hsz
        clear hsz
        generalize g i = gk at *
        generalize q i = qk at *
        go_upto_region 75 with fail
        go_quiet (fail)
        go_wp2_with fail
        go_roundw
        case rel => exact ⟨i + 1, by omega, by go_num, by rw [HF.out, HZ.out], bl_drewN hb _⟩
        case measure => simp [intOf]; omega
    · obtain rfl : n = i := by omega
      generalize hsz : (n : Int) - (if (fnd g gn n).isSome then (1 : Int) else 0) = szv
      have HZ : Hid ((n : Int) - (if (fnd g gn n).isSome then (1 : Int) else 0) = szv) := hsz
      clear hsz
      go_wp2_with fail
      exact HK.out _ _ _ _ _ _ _ _ _ _ _ _ _ _ _ _ _ _ _ _ _ _ _ _ _ _ _ _ _ _ _ _ _ _ _ _ _ _ _ ⟨by rw [HZ.out], hb⟩

end Go.Proofs.Ybulkclns
