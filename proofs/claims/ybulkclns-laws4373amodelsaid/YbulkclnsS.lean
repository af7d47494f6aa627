import Derived.Test.YbulkclnsI
namespace Go.Proofs.Ybulkclns
open Go.RowKit

def leafAt (r : Nat) : Code → Bool
  | .region k _ _ => k == r
  | .seq a _ => leafAt r a
  | .block _ c => leafAt r c
  | .loop c => leafAt r c
  | _ => false
def dropAt (r : Nat) : Code → Option Code
  | .seq a b => if leafAt r b then some b else match dropAt r b with
    | some c => some c
    | none => dropAt r a
  | .block _ c => dropAt r c
  | .loop c => dropAt r c
  | .scope c => dropAt r c
  | .cond _ a b => match dropAt r a with
    | some c => some c
    | none => dropAt r b
  | _ => none
/-- a law's code from region r on -/
def codeAt (f : Func) (r : Nat) : Code := ((f.body.bind (dropAt r)).getD .skip)
def loopIn : Code → Code
  | .block _ c => c
  | c => c
def blkNo : Code → Nat
  | .block n _ => n
  | _ => 0

/-- a row of bytes as it comes in -/
structure SlU (w : World) (p : Option Addr) (n : Nat) (f : Nat → Int) : Prop where
  pos : 0 < n → ∃ b o, p = some ⟨b, o, none⟩ ∧ ∀ i, i < n → w.cell? ⟨b, o + i, none⟩ = some (.int .u8 (f i))
  rng : ∀ i, 0 ≤ f i ∧ f i ≤ 255


/-- the farthest heights that the law lays -/
def f0F (fa : Nat → Int) (n4 : Nat) (top : Int) (i : Nat) : Int := if i < n4 ∧ ¬ fa i % 5 = 0 then top + fa i % 32 - 4 else 0
def toG {α : Type} (z : α) (f : Nat → α) (k i : Nat) : α := if i < k then f i else z
theorem toG_zero {α : Type} (z : α) (f : Nat → α) : toG z f 0 = fun _ => z := by funext i; simp [toG]
theorem toG_put {α : Type} (z : α) (f : Nat → α) (k : Nat) : put (toG z f k) k (f k) = toG z f (k + 1) := by
  funext i
  unfold toG put
  by_cases e : i = k
  · subst e; simp
  · have e2 : (i < k + 1) ↔ (i < k) := by omega
    simp [e, e2]
theorem toG_skip {f : Nat → Int} {k : Nat} (h : f k = 0) : toG 0 f k = toG 0 f (k + 1) := by
  funext i
  unfold toG
  by_cases e : i = k
  · subst e; simp [h]
  · have e2 : (i < k + 1) ↔ (i < k) := by omega
    simp [e2]

set_option maxRecDepth 1000000 in
set_option maxHeartbeats 4000000 in
theorem mod_10 (F0 kk n4 c4 : Nat) (p4 : Option Addr) (fa : Nat → Int) (top : Int) (w W : World) (hs : SlU w p4 n4 fa) (hb : Below w.heap.size w W) (hF : w.heap.size ≤ F0) (hC : Cells W F0 kk (fun _ => .int .i64 0)) (hk : kk ≤ 6) (h4 : n4 ≤ 9223372036854775807) (ht0 : 0 ≤ top) (ht : top ≤ 65600) (Q : Exit → Act → World → Prop)
    (x0 x1 x2 x3 x5 x6 x7 x8 x9 x10 x11 x12 x14 x15 x17 x20 x21 x22 x23 x24 x25 x26 x27 x28 x29 x30 x31 x32 x33 x34 x35 x36 x37 x38 x39 x40 x41 x42 x43 x44 x45 x46 x47 x48 x49 x50 x51 x52 x53 x54 x55 x56 x57 x58 x59 x60 x61 x62 x63 x64 x65 x66 x67 x68 x69 x70 x71 x72 x73 x74 x75 x76 x77 x78 x79 x80 x81 x82 x83 x84 x85 x86 x87 x88 x89 x90 x91 x92 x93 x94 x95 x96 x97 x98 x99 x100 x101 x102 x103 x104 x105 x106 x107 x108 x109 x110 x111 x112 x113 x114 x115 x116 x117 x118 x119 x120 x121 x122 x123 x124 x125 x126 x127 x128 x129 x130 x131 x132 x133 x134 x135 x136 x137 x138 x139 x140 x141 x142 x143 x144 x145 x146 x147 x148 x149 x150 x151 x152 x153 x154 x155 x156 x157 x158 x159 x160 x161 x162 x163 x164 x165 x166 x167 x168 x169 x170 x171 x172 x173 x174 x175 x176 x177 x178 x179 x180 x181 x182 x183 x184 x185 x186 x187 x188 x189 x190 x191 x192 x193 x194 x195 x196 x197 x198 x199 x200 x201 x202 x203 x204 x205 x206 x207 x208 x209 x210 x211 x212 x213 x214 x215 x216 x217 x218 x219 x220 x221 x222 x223 x224 x225 x226 x227 x228 x229 x230 x231 x232 x233 x234 x235 x236 x237 x238 x239 x240 x241 x242 x243 x244 x245 x246 x247 x248 x249 x250 x251 x252 x253 x254 x255 x256 x257 x258 x259 x260 x261 x262 x263 x264 x265 x266 x267 x268 x269 x270 x271 x272 x273 x274 x275 x276 x277 x278 x279 x280 x281 x282 x283 x284 x285 x286 x287 x288 x289 x290 x291 x292 x293 x294 x295 x296 x297 x298 x299 x300 x301 x302 x303 x304 x305 x306 x307 x308 x309 x310 x311 x312 x313 x314 x315 x316 x317 x318 x319 x320 x321 x322 x323 x324 x325 x326 x327 x328 x329 x330 x331 x332 x333 x334 x335 : Value) (hK : ∀ (wc : World) (y19 y20 y70 y71 y72 y73 y74 y75 y76 y77 y78 y79 y80 y81 y82 y83 y84 y85 y86 y87 y88 y89 y90 y91 y92 y93 y94 : Value), Cells wc F0 kk (fun i => .int .i64 (f0F fa n4 top i)) ∧ Keeps (fun b => b = F0) W wc → Q .normal ⟨#[x0, x1, x2, x3, .slice p4 n4 c4, x5, x6, x7, x8, x9, x10, x11, x12, .int .i64 kk, x14, x15, .int .i64 top, x17, .slice (some ⟨F0, 0, none⟩) kk kk, y19, y20, x21, x22, x23, x24, x25, x26, x27, x28, x29, x30, x31, x32, x33, x34, x35, x36, x37, x38, x39, x40, x41, x42, x43, x44, x45, x46, x47, x48, x49, x50, x51, x52, x53, x54, x55, x56, x57, x58, x59, x60, x61, x62, x63, x64, x65, x66, x67, x68, x69, y70, y71, y72, y73, y74, y75, y76, y77, y78, y79, y80, y81, y82, y83, y84, y85, y86, y87, y88, y89, y90, y91, y92, y93, y94, x95, x96, x97, x98, x99, x100, x101, x102, x103, x104, x105, x106, x107, x108, x109, x110, x111, x112, x113, x114, x115, x116, x117, x118, x119, x120, x121, x122, x123, x124, x125, x126, x127, x128, x129, x130, x131, x132, x133, x134, x135, x136, x137, x138, x139, x140, x141, x142, x143, x144, x145, x146, x147, x148, x149, x150, x151, x152, x153, x154, x155, x156, x157, x158, x159, x160, x161, x162, x163, x164, x165, x166, x167, x168, x169, x170, x171, x172, x173, x174, x175, x176, x177, x178, x179, x180, x181, x182, x183, x184, x185, x186, x187, x188, x189, x190, x191, x192, x193, x194, x195, x196, x197, x198, x199, x200, x201, x202, x203, x204, x205, x206, x207, x208, x209, x210, x211, x212, x213, x214, x215, x216, x217, x218, x219, x220, x221, x222, x223, x224, x225, x226, x227, x228, x229, x230, x231, x232, x233, x234, x235, x236, x237, x238, x239, x240, x241, x242, x243, x244, x245, x246, x247, x248, x249, x250, x251, x252, x253, x254, x255, x256, x257, x258, x259, x260, x261, x262, x263, x264, x265, x266, x267, x268, x269, x270, x271, x272, x273, x274, x275, x276, x277, x278, x279, x280, x281, x282, x283, x284, x285, x286, x287, x288, x289, x290, x291, x292, x293, x294, x295, x296, x297, x298, x299, x300, x301, x302, x303, x304, x305, x306, x307, x308, x309, x310, x311, x312, x313, x314, x315, x316, x317, x318, x319, x320, x321, x322, x323, x324, x325, x326, x327, x328, x329, x330, x331, x332, x333, x334, x335], []⟩ wc) :
    Code.wp Yba.prog (loopIn (codeAt Yba.f3 10)) (Exit.inBlock (blkNo (codeAt Yba.f3 10)) Q) ⟨#[x0, x1, x2, x3, .slice p4 n4 c4, x5, x6, x7, x8, x9, x10, x11, x12, .int .i64 kk, x14, x15, .int .i64 top, x17, .slice (some ⟨F0, 0, none⟩) kk kk, .int .i64 0, x20, x21, x22, x23, x24, x25, x26, x27, x28, x29, x30, x31, x32, x33, x34, x35, x36, x37, x38, x39, x40, x41, x42, x43, x44, x45, x46, x47, x48, x49, x50, x51, x52, x53, x54, x55, x56, x57, x58, x59, x60, x61, x62, x63, x64, x65, x66, x67, x68, x69, x70, x71, x72, x73, x74, x75, x76, x77, x78, x79, x80, x81, x82, x83, x84, x85, x86, x87, x88, x89, x90, x91, x92, x93, x94, x95, x96, x97, x98, x99, x100, x101, x102, x103, x104, x105, x106, x107, x108, x109, x110, x111, x112, x113, x114, x115, x116, x117, x118, x119, x120, x121, x122, x123, x124, x125, x126, x127, x128, x129, x130, x131, x132, x133, x134, x135, x136, x137, x138, x139, x140, x141, x142, x143, x144, x145, x146, x147, x148, x149, x150, x151, x152, x153, x154, x155, x156, x157, x158, x159, x160, x161, x162, x163, x164, x165, x166, x167, x168, x169, x170, x171, x172, x173, x174, x175, x176, x177, x178, x179, x180, x181, x182, x183, x184, x185, x186, x187, x188, x189, x190, x191, x192, x193, x194, x195, x196, x197, x198, x199, x200, x201, x202, x203, x204, x205, x206, x207, x208, x209, x210, x211, x212, x213, x214, x215, x216, x217, x218, x219, x220, x221, x222, x223, x224, x225, x226, x227, x228, x229, x230, x231, x232, x233, x234, x235, x236, x237, x238, x239, x240, x241, x242, x243, x244, x245, x246, x247, x248, x249, x250, x251, x252, x253, x254, x255, x256, x257, x258, x259, x260, x261, x262, x263, x264, x265, x266, x267, x268, x269, x270, x271, x272, x273, x274, x275, x276, x277, x278, x279, x280, x281, x282, x283, x284, x285, x286, x287, x288, x289, x290, x291, x292, x293, x294, x295, x296, x297, x298, x299, x300, x301, x302, x303, x304, x305, x306, x307, x308, x309, x310, x311, x312, x313, x314, x315, x316, x317, x318, x319, x320, x321, x322, x323, x324, x325, x326, x327, x328, x329, x330, x331, x332, x333, x334, x335], []⟩ W := by
  have HK : Hid (∀ (wc : World) (y19 y20 y70 y71 y72 y73 y74 y75 y76 y77 y78 y79 y80 y81 y82 y83 y84 y85 y86 y87 y88 y89 y90 y91 y92 y93 y94 : Value), Cells wc F0 kk (fun i => .int .i64 (f0F fa n4 top i)) ∧ Keeps (fun b => b = F0) W wc → Q .normal ⟨#[x0, x1, x2, x3, .slice p4 n4 c4, x5, x6, x7, x8, x9, x10, x11, x12, .int .i64 kk, x14, x15, .int .i64 top, x17, .slice (some ⟨F0, 0, none⟩) kk kk, y19, y20, x21, x22, x23, x24, x25, x26, x27, x28, x29, x30, x31, x32, x33, x34, x35, x36, x37, x38, x39, x40, x41, x42, x43, x44, x45, x46, x47, x48, x49, x50, x51, x52, x53, x54, x55, x56, x57, x58, x59, x60, x61, x62, x63, x64, x65, x66, x67, x68, x69, y70, y71, y72, y73, y74, y75, y76, y77, y78, y79, y80, y81, y82, y83, y84, y85, y86, y87, y88, y89, y90, y91, y92, y93, y94, x95, x96, x97, x98, x99, x100, x101, x102, x103, x104, x105, x106, x107, x108, x109, x110, x111, x112, x113, x114, x115, x116, x117, x118, x119, x120, x121, x122, x123, x124, x125, x126, x127, x128, x129, x130, x131, x132, x133, x134, x135, x136, x137, x138, x139, x140, x141, x142, x143, x144, x145, x146, x147, x148, x149, x150, x151, x152, x153, x154, x155, x156, x157, x158, x159, x160, x161, x162, x163, x164, x165, x166, x167, x168, x169, x170, x171, x172, x173, x174, x175, x176, x177, x178, x179, x180, x181, x182, x183, x184, x185, x186, x187, x188, x189, x190, x191, x192, x193, x194, x195, x196, x197, x198, x199, x200, x201, x202, x203, x204, x205, x206, x207, x208, x209, x210, x211, x212, x213, x214, x215, x216, x217, x218, x219, x220, x221, x222, x223, x224, x225, x226, x227, x228, x229, x230, x231, x232, x233, x234, x235, x236, x237, x238, x239, x240, x241, x242, x243, x244, x245, x246, x247, x248, x249, x250, x251, x252, x253, x254, x255, x256, x257, x258, x259, x260, x261, x262, x263, x264, x265, x266, x267, x268, x269, x270, x271, x272, x273, x274, x275, x276, x277, x278, x279, x280, x281, x282, x283, x284, x285, x286, x287, x288, x289, x290, x291, x292, x293, x294, x295, x296, x297, x298, x299, x300, x301, x302, x303, x304, x305, x306, x307, x308, x309, x310, x311, x312, x313, x314, x315, x316, x317, x318, x319, x320, x321, x322, x323, x324, x325, x326, x327, x328, x329, x330, x331, x332, x333, x334, x335], []⟩ wc) := hK
  clear hK
  conv => arg 2; whnf
  conv => arg 3; arg 1; whnf
  conv => arg 4; dsimp only
  have HI : Hid (SlU w p4 n4 fa ∧ Below w.heap.size w W ∧ Cells W F0 kk (fun _ => .int .i64 0)) := ⟨hs, hb, hC⟩
  clear hs hb hC
  go_loopw [19] (fun x wr => ∃ i : Nat, i ≤ kk ∧ x = .int .i64 i ∧ Cells wr F0 kk (fun j => .int .i64 (toG 0 (f0F fa n4 top) i j)) ∧ Keeps (fun b => b = F0) W wr) (fun x _ => kk - (intOf x).toNat)
  case atStart => exact ⟨0, Nat.zero_le _, rfl, by rw [toG_zero]; exact HI.out.2.2, Keeps.refl _ _⟩
  case round =>
    obtain ⟨i, hi, rfl, hC, hK⟩ := hrel
    by_cases hlt : i < kk
    · have d0 := hC.cell i hlt
      have e0 := hC.free i hlt
      have i1 : (0 : Int) ≤ (i : Int) := by omega
      have i2 : (i : Int) < (kk : Int) := by omega
      have HC : Hid (Cells wr F0 kk (fun j => .int .i64 (toG 0 (f0F fa n4 top) i j)) ∧ Keeps (fun b => b = F0) W wr) := ⟨hC, hK⟩
      by_cases h : i < n4
      · have hbw : Below w.heap.size w wr := HI.out.2.1.trans (hK.below HI.out.2.1.size (fun b e => by rw [e]; exact hF))
        obtain ⟨b, o, e, hc⟩ := HI.out.1.pos (by omega)
        cases e
        have c0 := cell_later hbw (hc i h)
        have hr := HI.out.1.rng i
        have k1 : decide ((i : Int) < (n4 : Int)) = true := by simp; omega
        have i3 : (i : Int) < (n4 : Int) := by omega
        have HV : Hid (f0F fa n4 top i = if ¬ fa i % 5 = 0 then top + fa i % 32 - 4 else 0) := by show f0F fa n4 top i = _; simp [f0F, h]
        clear hC hK hc hbw
        generalize fa i = v at *
        by_cases h5 : v % 5 = 0
        · have hv : f0F fa n4 top i = 0 := by rw [HV.out]; simp [h5]
          have HV0 : Hid (f0F fa n4 top i = 0) := hv
          clear hv HV
          go_wp2_with fail
          go_roundw
          case rel => exact ⟨i + 1, by omega, by go_num, by rw [← toG_skip HV0.out]; exact HC.out.1, HC.out.2⟩
          case measure => simp [intOf]; omega
        · have hv : f0F fa n4 top i = top + v % 32 - 4 := by rw [HV.out]; simp [h5]
          have HV0 : Hid (f0F fa n4 top i = top + v % 32 - 4) := hv
          clear hv HV
          have q5 : (v % 5 != 0) = true := by simp [h5]
          go_wp2_with fail
          go_roundw
          case rel =>
            refine ⟨i + 1, by omega, by go_num, ?_, HC.out.2.setCell (p := ⟨F0, i, none⟩) rfl _⟩
            rw [← toG_put]
            have := put_cells HC.out.1 hlt (f0F fa n4 top i)
            rw [HV0.out] at this
            rw [HV0.out]
            exact this
          case measure => simp [intOf]; omega
      · have k1 : decide ((i : Int) < (n4 : Int)) = false := by simp; omega
        have hv : f0F fa n4 top i = 0 := by simp [f0F, h]
        have HV0 : Hid (f0F fa n4 top i = 0) := hv
        clear hv hC hK
        go_wp2_with fail
        go_roundw
        case rel => exact ⟨i + 1, by omega, by go_num, by rw [← toG_skip HV0.out]; exact HC.out.1, HC.out.2⟩
        case measure => simp [intOf]; omega
    · obtain rfl : kk = i := by omega
      go_wp2_with fail
      exact HK.out _ _ _ _ _ _ _ _ _ _ _ _ _ _ _ _ _ _ _ _ _ _ _ _ _ _ _ _ ⟨hC.congr (fun j hj => by simp [toG, hj]), hK⟩

end Go.Proofs.Ybulkclns
