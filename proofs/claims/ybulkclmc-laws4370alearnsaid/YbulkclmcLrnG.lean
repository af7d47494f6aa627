import Derived.Test.YbulkclmcLrnF
namespace Go.Proofs.Ybulkclmc
open Go.RowKit

def nilL : Lhs := ⟨none, 0, 0, fun _ => 0⟩
theorem nilL_ok (lo : Nat) (w : World) : LhsOk lo w nilL := ⟨Nat.zero_le _, fun h => absurd h (Nat.lt_irrefl 0)⟩

/-- what stands behind the making of the stored nogoods' row -/
structure St25 (AG V FA ST EX AS n1 n2 n3 me : Nat) (p1 p2 p3 : Option Addr) (v t : Int) (va vt vp : Nat → Int) (vk : Nat → Bool) (L : Nat → Lhs) (has pr : Nat → Bool) (M : Nat → Lhs) (sz : Nat → Int) (w W : World) : Prop where
  a : LrnA AG V FA ST EX n1 n2 me W
  view : Cells W V (n1 * 4) (vwOf va vt vp vk)
  st : Cells W ST (n2 * 2) (stOf (fun _ => nilL) (fun _ => false))
  ex : Cells W EX n1 (exOf (fun _ => none))
  inp : LrnIn p1 p2 p3 n1 n2 n3 va vt vp vk L has pr M sz w
  hL : ∀ i, i < n2 → (L i).n ≤ 1024
  hM : ∀ i, i < n3 → (M i).n ≤ 1024
  as1 : W.cell? ⟨AS, 1, none⟩ = some (.int .i64 v)
  as2 : W.cell? ⟨AS, 2, none⟩ = some (.int .i64 t)
  bel : Below w.heap.size w W

theorem keeps_set' {B : Nat} {a w : World} (h : Keeps (fun b => b = B) a w) (o : Nat) (u : Value) : Keeps (fun b => b = B) a (w.setCell ⟨B, o, none⟩ u) := h.setCell (p := ⟨B, o, none⟩) rfl u
theorem keeps_then' {S : Nat → Prop} {a X w1 : World} (h : Below X.heap.size X w1) (k : Keeps S a X) : Keeps S a w1 := k.trans (Keeps.of_below h)

theorem st_put {w : World} {b m k : Nat} {S : Nat → Lhs} {h : Nat → Bool} (hc : Cells w b (m * 2) (stOf S h)) (hk : k < m) (x : Lhs) (y : Bool) :
    Cells ((w.setCell ⟨b, k * 2, none⟩ x.val).setCell ⟨b, k * 2 + 1, none⟩ (.bool y)) b (m * 2) (stOf (upd S k x) (upd h k y)) := by
  refine ((hc.set (j := k * 2) (by omega) _).set (j := k * 2 + 1) (by omega) _).congr fun i hi => ?_
  by_cases e : i = k * 2 + 1
  · subst e; simp [stOf1, upd]
  · by_cases e2 : i = k * 2
    · subst e2; simp [stOf0, upd]
    · have : ¬ i / 2 = k := by omega
      simp [e, e2, stOf, upd, this]

abbrev S28 (a b c : Addr) (x y z : Value) (B : Nat) (T w' : World) : Prop := w'.cell? a = some x ∧ w'.cell? b = some y ∧ w'.cell? c = some z ∧ Keeps (fun q => q = B) T w'
theorem s28 {a b c : Addr} {x y z : Value} {B : Nat} {T w' : World} (h1 : T.cell? a = some x) (h2 : T.cell? b = some y) (h3 : T.cell? c = some z) (n1 : ¬ a.block = B) (n2 : ¬ b.block = B) (n3 : ¬ c.block = B) (hb : Keeps (fun q => q = B) T w') : S28 a b c x y z B T w' :=
  ⟨hb.cell n1 h1, hb.cell n2 h2, hb.cell n3 h3, hb⟩

theorem toF_upd {α : Type} (z : α) (f : Nat → α) (k : Nat) : upd (toF z f k) k (f k) = toF z f (k + 1) := (toF_step z f k).symm
theorem toF_full {α : Type} (z : α) (f : Nat → α) (n i : Nat) (h : i < n) : toF z f n i = f i := by simp [toF, h]

set_option maxRecDepth 1000000 in
set_option maxHeartbeats 4000000 in
theorem lrn_25 (AG V FA ST EX AS n1 n2 n3 me ag c1 c2 c3 : Nat) (p1 p2 p3 : Option Addr) (v t : Int) (va vt vp : Nat → Int) (vk : Nat → Bool) (L : Nat → Lhs) (has pr : Nat → Bool) (M : Nat → Lhs) (sz : Nat → Int) (w W : World) (h0 : 0 < n1) (h1 : n1 ≤ 1024) (h2 : n2 ≤ 1024) (h3 : n3 ≤ 1024) (hag : ag < n1) (hL : Lies AG V FA ST EX AS W.heap.size w) (hSF : ¬ ST = FA) (hEF : ¬ EX = FA)
    (hI : St25 AG V FA ST EX AS n1 n2 n3 me p1 p2 p3 v t va vt vp vk L has pr M sz w W)
    (x0 x4 x5 x6 x7 x8 x10 x12 x13 x14 x15 x19 x20 x21 x22 x23 x24 x25 x26 x27 x28 x29 x30 x31 x32 x33 x34 x35 x36 x37 x38 x39 x40 x41 x42 x43 x44 x45 x46 x47 x48 x49 x50 x51 x52 x53 x54 x55 x56 x57 x58 x59 x60 x61 x62 x63 x64 x65 x66 x67 x68 x69 x70 x71 x72 x73 x74 x75 x76 x77 x78 x79 x80 x81 x82 x83 x84 x85 x86 x87 x88 x89 x90 x91 x92 x93 x94 x95 x96 x97 x98 x99 x100 x101 x102 x103 x104 x105 x106 x107 x108 x109 x110 x111 x112 x113 x114 x115 x116 x117 x118 x119 x120 x121 x122 x123 x124 x125 x126 x127 x128 x129 x130 x131 x132 x133 x134 x135 x136 x137 x138 x139 x140 x141 x142 x143 x144 x145 x146 x147 x148 x149 x150 x151 x152 x153 x154 x155 x156 x157 x158 x159 x160 x161 x162 x163 x164 x165 x166 x167 x168 x169 x170 x171 x172 x173 x174 x175 x176 x177 x178 x179 x180 x181 x182 x183 x184 x185 x186 x187 x188 x189 x190 x191 x192 x193 x194 x195 x196 x197 x198 x199 x200 x201 x202 x203 x204 x205 x206 x207 x208 x209 x210 x211 x212 x213 x214 x215 x216 x217 x218 x219 x220 x221 x222 x223 x224 x225 x226 x227 x228 x229 x230 x231 x232 x233 x234 x235 x236 x237 x238 x239 x240 x241 x242 x243 x244 x245 x246 x247 x248 x249 x250 x251 x252 x253 x254 x255 x256 x257 x258 x259 x260 x261 x262 x263 x264 x265 x266 x267 x268 x269 x270 x271 x272 x273 x274 x275 x276 x277 x278 x279 x280 x281 x282 x283 x284 x285 x286 x287 x288 x289 x290 x291 x292 x293 x294 x295 x296 x297 x298 x299 x300 x301 x302 x303 x304 x305 x306 x307 x308 x309 x310 x311 x312 x313 x314 x315 x316 x317 x318 x319 x320 x321 x322 x323 x324 x325 x326 x327 x328 x329 x330 x331 x332 x333 x334 x335 x336 x337 x338 x339 x340 x341 x342 x343 x344 x345 x346 x347 x348 x349 x350 x351 x352 x353 x354 x355 x356 x357 x358 x359 x360 x361 x362 x363 x364 x365 x366 x367 x368 x369 x370 x371 x372 x373 x374 x375 x376 x377 x378 x379 x380 x381 x382 x383 x384 x385 x386 x387 x388 x389 x390 x391 x392 x393 x394 x395 x396 x397 x398 x399 x400 x401 x402 x403 x404 x405 x406 x407 x408 x409 x410 x411 x412 x413 x414 x415 x416 x417 x418 x419 x420 x421 x422 x423 x424 x425 x426 : Value) :
    Code.wp Yba.prog (restOf Yba.f3 25) (bodyPost Yba.prog Yba.f3 (fun e w' => e = .returned (.bool true) ∧ Below w.heap.size w w')) ⟨#[x0, .slice p1 n1 c1, .slice p2 n2 c2, .slice p3 n3 c3, x4, x5, x6, x7, x8, .pointer (some ⟨AS, 0, none⟩), x10, .int .i64 n1, x12, x13, x14, x15, .int .i64 me, .int .i64 ag, .pointer (some ⟨AG, 0, none⟩), x19, x20, x21, x22, x23, x24, x25, x26, x27, x28, x29, x30, x31, x32, x33, x34, x35, x36, x37, x38, x39, x40, x41, x42, x43, x44, x45, x46, x47, x48, x49, x50, x51, x52, x53, x54, x55, x56, x57, x58, x59, x60, x61, x62, x63, x64, x65, x66, x67, x68, x69, x70, x71, x72, x73, x74, x75, x76, x77, x78, x79, x80, x81, x82, x83, x84, x85, x86, x87, x88, x89, x90, x91, x92, x93, x94, x95, x96, x97, x98, x99, x100, x101, x102, x103, x104, x105, x106, x107, x108, x109, x110, x111, x112, x113, x114, x115, x116, x117, x118, x119, x120, x121, x122, x123, x124, x125, x126, x127, x128, x129, x130, x131, x132, x133, x134, x135, x136, x137, x138, x139, x140, x141, x142, x143, x144, x145, x146, x147, x148, x149, x150, x151, x152, x153, x154, x155, x156, x157, x158, x159, x160, x161, x162, x163, x164, x165, x166, x167, x168, x169, x170, x171, x172, x173, x174, x175, x176, x177, x178, x179, x180, x181, x182, x183, x184, x185, x186, x187, x188, x189, x190, x191, x192, x193, x194, x195, x196, x197, x198, x199, x200, x201, x202, x203, x204, x205, x206, x207, x208, x209, x210, x211, x212, x213, x214, x215, x216, x217, x218, x219, x220, x221, x222, x223, x224, x225, x226, x227, x228, x229, x230, x231, x232, x233, x234, x235, x236, x237, x238, x239, x240, x241, x242, x243, x244, x245, x246, x247, x248, x249, x250, x251, x252, x253, x254, x255, x256, x257, x258, x259, x260, x261, x262, x263, x264, x265, x266, x267, x268, x269, x270, x271, x272, x273, x274, x275, x276, x277, x278, x279, x280, x281, x282, x283, x284, x285, x286, x287, x288, x289, x290, x291, x292, x293, x294, x295, x296, x297, x298, x299, x300, x301, x302, x303, x304, x305, x306, x307, x308, x309, x310, x311, x312, x313, x314, x315, x316, x317, x318, x319, x320, x321, x322, x323, x324, x325, x326, x327, x328, x329, x330, x331, x332, x333, x334, x335, x336, x337, x338, x339, x340, x341, x342, x343, x344, x345, x346, x347, x348, x349, x350, x351, x352, x353, x354, x355, x356, x357, x358, x359, x360, x361, x362, x363, x364, x365, x366, x367, x368, x369, x370, x371, x372, x373, x374, x375, x376, x377, x378, x379, x380, x381, x382, x383, x384, x385, x386, x387, x388, x389, x390, x391, x392, x393, x394, x395, x396, x397, x398, x399, x400, x401, x402, x403, x404, x405, x406, x407, x408, x409, x410, x411, x412, x413, x414, x415, x416, x417, x418, x419, x420, x421, x422, x423, x424, x425, x426], []⟩ W := by
  have HI : Hid (St25 AG V FA ST EX AS n1 n2 n3 me p1 p2 p3 v t va vt vp vk L has pr M sz w W) := hI
  have HL : Hid (Lies AG V FA ST EX AS W.heap.size w) := hL
  clear hI hL
  have e1 : ¬ AG = ST := fun h => HL.out.hSA h.symm
  have e2 : ¬ ST = AG := HL.out.hSA
  have hsS := HL.out.sS
  have hsE := HL.out.sE
  have hlS := HL.out.hlS
  have hlE := HL.out.hlE
  have HC0 : Hid (Cells W ST (n2 * 2) (stOf (fun _ => nilL) (toF false has 0))) := by rw [toF_zero]; exact HI.out.st
  conv => arg 2; whnf
  go_wp2_with fail
  go_loopw [20] (fun x wr => ∃ k : Nat, k ≤ n2 ∧ x = .int .i64 k ∧ ∃ S : Nat → Lhs, (∀ i, i < n2 → LhsOk W.heap.size wr (S i)) ∧ Cells wr ST (n2 * 2) (stOf S (toF false has k)) ∧ Keeps (fun b => b = ST) W wr) (fun x _ => n2 - (intOf x).toNat)
  case atStart => exact ⟨0, Nat.zero_le _, rfl, fun _ => nilL, fun i _ => nilL_ok _ _, HC0.out, Keeps.refl _ _⟩
  case round =>
    clear HC0
    obtain ⟨k, hk, rfl, S, hS, hC, hKr⟩ := hrel
    by_cases hlt : k < n2
    ·
      -- <A
      obtain ⟨b, o, e, hc⟩ := HI.out.inp.s (by omega)
      cases e
      obtain ⟨x0', x1'⟩ := hc k hlt
      have hbl : b < w.heap.size := World.block_lt_of_cell? _ _ x0'
      have hbS : ¬ b = ST := by omega
      have hSb : ¬ ST = b := by omega
      have A0 := HI.out.a.a11
      have A1 := cell_later HI.out.bel x0'
      have A2 := cell_later HI.out.bel x1'
      have hA0 := hKr.cell (p := ⟨AG, 11, none⟩) e1 A0
      have hA1 := hKr.cell (p := ⟨b, o + k * 2, none⟩) hbS A1
      have hA2 := hKr.cell (p := ⟨b, o + k * 2 + 1, none⟩) hbS A2
      have hbw : Below w.heap.size w wr := HI.out.bel.trans (hKr.below HI.out.bel.size (fun k e => by subst e; exact hsS))
      have hIn : In3 wr (L k).p (L k).n (L k).f := (HI.out.inp.sl k hlt).1.later hbw
      have hLk := HI.out.hL k hlt
      have d0 := hC.cell (k * 2) (by omega)
      have d1 := hC.cell (k * 2 + 1) (by omega)
      have f0 := hC.free (k * 2) (by omega)
      have f1 := hC.free (k * 2 + 1) (by omega)
      have HC : Hid ((∀ i, i < n2 → LhsOk W.heap.size wr (S i)) ∧ Cells wr ST (n2 * 2) (stOf S (toF false has k)) ∧ Keeps (fun b => b = ST) W wr) := ⟨hS, hC, hKr⟩
      have hkI : (0 : Int) ≤ (k : Int) := by omega
      have hkN : (k : Int) < (n2 : Int) := by omega
      have hWl := hKr.size
      clear hS hC hc x0' x1'
      go_upto_region 28 with fail
      go_region_held3 (fun w' => S28 ⟨AG, 11, none⟩ ⟨b, o + k * 2, none⟩ ⟨b, o + k * 2 + 1, none⟩ (.slice (some ⟨ST, 0, none⟩) n2 n2) (L k).val (.bool (has k)) ST W w') ((refine s28 A0 A1 A2 e1 hbS hbS ?_; repeat (first | refine Keeps.drew ?_ | refine Keeps.drewN ?_ _ | refine Keeps.alloc ?_ _ | refine keeps_set' ?_ _ _ | refine keeps_then' hbq ?_ | exact hKr))) (first | (go_at_call 8; refine (alhs_any (L k).p (L k).n (L k).c n1 (L k).f _ (hIn.later ?_) hLk h0 h1).mono ?_; (repeat (first | refine Below.drew ?_ | refine below_drewN' ?_ _ | exact Below.refl _ _)); rintro e wq ⟨⟨xp, xn, xc, xf⟩, he, hxn, hx, hbq⟩; (simp only [Lhs.val] at he); (subst he); have dq0 := cell_later hbq d0; have dq1 := cell_later hbq d1; have fq0 := (hbq.frozen (p := ⟨ST, k * 2, none⟩) (World.block_lt_of_cell? _ _ d0)).trans f0; have fq1 := (hbq.frozen (p := ⟨ST, k * 2 + 1, none⟩) (World.block_lt_of_cell? _ _ d1)).trans f1))
      subst hxn
      have hq2 : Below wr.heap.size wr wq := below_then' hbq (Below.refl _ _).drew
      have HQ : Hid ((∀ i, i < n2 → LhsOk W.heap.size ((wq.setCell ⟨ST, k * 2, none⟩ (.slice xp (L k).n xc)).setCell ⟨ST, k * 2 + 1, none⟩ (.bool (has k))) (upd S k ⟨xp, (L k).n, xc, xf⟩ i)) ∧ Cells ((wq.setCell ⟨ST, k * 2, none⟩ (.slice xp (L k).n xc)).setCell ⟨ST, k * 2 + 1, none⟩ (.bool (has k))) ST (n2 * 2) (stOf (upd S k ⟨xp, (L k).n, xc, xf⟩) (toF false has (k + 1))) ∧ Keeps (fun b => b = ST) W ((wq.setCell ⟨ST, k * 2, none⟩ (.slice xp (L k).n xc)).setCell ⟨ST, k * 2 + 1, none⟩ (.bool (has k)))) := by
        have hK2 : Keeps (fun b => b = ST) wq ((wq.setCell ⟨ST, k * 2, none⟩ (.slice xp (L k).n xc)).setCell ⟨ST, k * 2 + 1, none⟩ (.bool (has k))) := keeps_set' (keeps_set' (Keeps.refl _ _) _ _) _ _
        refine ⟨fun i hi => ?_, ?_, (keeps_then' hq2 HC.out.2.2).trans hK2⟩
        · by_cases e : i = k
          · simp only [upd, e, if_true]
            exact (hx.mono hWl).keeps hK2 (fun b hb h => by omega)
          · simp only [upd, e, if_false]
            exact ((HC.out.1 i hi).later hq2).keeps hK2 (fun b hb h => by omega)
        · rw [← toF_upd]
          exact st_put (HC.out.2.1.later hq2) hlt ⟨xp, (L k).n, xc, xf⟩ (has k)
      clear HC hx hq2
      go_wp2_with fail
      go_roundw
      case rel => exact ⟨k + 1, by omega, by go_num, _, HQ.out.1, HQ.out.2.1, HQ.out.2.2⟩
      case measure => simp [intOf]; omega
      -- A>
    · obtain rfl : n2 = k := by omega
      obtain ⟨W1, rfl⟩ : ∃ x, x = wr := ⟨wr, rfl⟩
      have hSt : Cells W1 ST (n2 * 2) (stOf S has) := hC.congr fun i hi => by
        have : i / 2 < n2 := by omega
        simp [stOf, toF, this]
      have HS : Hid ((∀ i, i < n2 → LhsOk W.heap.size W1 (S i)) ∧ Cells W1 ST (n2 * 2) (stOf S has) ∧ Keeps (fun b => b = ST) W W1) := ⟨hS, hSt, hKr⟩
      have hWl := hKr.size
      have hEX := hKr.cells (fun h => HL.out.hSE h.symm) HI.out.ex
      have a14 := hKr.cell (p := ⟨AG, 14, none⟩) e1 HI.out.a.a14
      have hbw1 : Below w.heap.size w W1 := HI.out.bel.trans (hKr.below HI.out.bel.size (fun k e => by subst e; exact hsS))
      have e3 : ¬ AG = EX := fun h => HL.out.hEA h.symm
      have e4 : ¬ EX = AG := HL.out.hEA
      clear hC hS hSt hKr
      go_wp2_with fail
      go_loopw [21] (fun x wr => ∃ k : Nat, k ≤ n1 ∧ x = .int .i64 k ∧ ∃ (X : Nat → Option Nat) (E : Nat → Lhs), (∀ j, j < n1 → ExOk W.heap.size wr (X j) (E j)) ∧ Cells wr EX n1 (exOf X) ∧ Keeps (fun b => b = EX) W1 wr) (fun x _ => n1 - (intOf x).toNat)
      case atStart => exact ⟨0, Nat.zero_le _, rfl, fun _ => none, fun _ => nilL, fun j _ => ⟨fun b h => by cases h⟩, hEX, Keeps.refl _ _⟩
      case round =>
        clear hEX
        obtain ⟨k, hk, rfl, X, E, hE, hC, hKr⟩ := hrel
        by_cases hlt : k < n1 ∧ k < n3
        ·
          -- <B
          obtain ⟨hlt, hlt3⟩ := hlt
          obtain ⟨b, o, e, hc⟩ := HI.out.inp.x (by omega)
          cases e
          obtain ⟨x0', x1', x2'⟩ := hc k hlt3
          have hbl : b < w.heap.size := World.block_lt_of_cell? _ _ x0'
          have hbE : ¬ b = EX := by omega
          have hEb : ¬ EX = b := by omega
          have A1 := cell_later hbw1 x1'
          have A2 := cell_later hbw1 x2'
          have hA0 := hKr.cell (p := ⟨b, o + k * 3, none⟩) hbE (cell_later hbw1 x0')
          have hA1 := hKr.cell (p := ⟨b, o + k * 3 + 1, none⟩) hbE A1
          have hA2 := hKr.cell (p := ⟨b, o + k * 3 + 2, none⟩) hbE A2
          have hA3 := hKr.cell (p := ⟨AG, 14, none⟩) e3 a14
          have hbw : Below w.heap.size w wr := hbw1.trans (hKr.below hbw1.size (fun k e => by subst e; exact hsE))
          have hIn : In3 wr (M k).p (M k).n (M k).f := (HI.out.inp.xl k hlt3).1.later hbw
          have hMk := HI.out.hM k hlt3
          have d0 := hC.cell k hlt
          have f0 := hC.free k hlt
          have HC : Hid ((∀ j, j < n1 → ExOk W.heap.size wr (X j) (E j)) ∧ Cells wr EX n1 (exOf X) ∧ Keeps (fun b => b = EX) W1 wr) := ⟨hE, hC, hKr⟩
          have hkI : (0 : Int) ≤ (k : Int) := by omega
          have hkN : (k : Int) < (n1 : Int) := by omega
          have hkM : (k : Int) < (n3 : Int) := by omega
          have g1 : decide ((k : Int) < (n1 : Int)) = true := by simp; omega
          have g2 : decide ((k : Int) < (n3 : Int)) = true := by simp; omega
          have hWl2 := hKr.size
          clear hE hC hc x0' x1' x2'
          generalize pr k = pk at *
          cases pk with
          | false =>
            go_wp2_with fail
            go_roundw
            case rel => exact ⟨k + 1, by omega, by go_num, _, _, HC.out.1, HC.out.2.1, HC.out.2.2⟩
            case measure => simp [intOf]; omega
          | true =>
            go_upto_region 33 with fail
            have hwE : ¬ wr.heap.size = EX := by omega
            go_region_held3 (fun w' => S28 ⟨AG, 14, none⟩ ⟨b, o + k * 3 + 1, none⟩ ⟨b, o + k * 3 + 2, none⟩ (.slice (some ⟨EX, 0, none⟩) n1 n1) (M k).val (.int .i64 (sz k)) EX W1 w') ((refine s28 a14 A1 A2 e3 hbE hbE ?_; repeat (first | refine Keeps.drew ?_ | refine Keeps.drewN ?_ _ | refine Keeps.alloc ?_ _ | refine keeps_set' ?_ _ _ | refine keeps_then' hbq ?_ | exact hKr))) (first | (go_at_call 8; refine (alhs_any (M k).p (M k).n (M k).c n1 (M k).f _ (hIn.later ?_) hMk h0 h1).mono ?_; (repeat (first | refine Below.drew ?_ | refine below_drewN' ?_ _ | exact Below.refl _ _)); rintro e wq ⟨⟨xp, xn, xc, xf⟩, he, hxn, hx, hbq⟩; (simp only [Lhs.val] at he); (subst he); have dq0 := cell_later hbq d0; have fq0 := (hbq.frozen (p := ⟨EX, k, none⟩) (World.block_lt_of_cell? _ _ d0)).trans f0; have lq : EX < wq.heap.size := World.block_lt_of_cell? _ _ dq0; have lq1 : ¬ wq.heap.size = EX := (by omega); have lq2 : ¬ EX = wq.heap.size := (by omega)))
            subst hxn
            have hq2 : Below wr.heap.size wr wq := below_then' hbq (Below.refl _ _).drew
            have HQ : Hid ((∀ j, j < n1 → ExOk W.heap.size ((wq.setCell ⟨EX, k, none⟩ (.pointer (some ⟨wq.heap.size, 0, none⟩))).alloc (.cells #[.slice xp (M k).n xc, .int .i64 (sz k)] 63)) (upd X k (some wq.heap.size) j) (upd E k ⟨xp, (M k).n, xc, xf⟩ j)) ∧ Cells ((wq.setCell ⟨EX, k, none⟩ (.pointer (some ⟨wq.heap.size, 0, none⟩))).alloc (.cells #[.slice xp (M k).n xc, .int .i64 (sz k)] 63)) EX n1 (exOf (upd X k (some wq.heap.size))) ∧ Keeps (fun b => b = EX) W1 ((wq.setCell ⟨EX, k, none⟩ (.pointer (some ⟨wq.heap.size, 0, none⟩))).alloc (.cells #[.slice xp (M k).n xc, .int .i64 (sz k)] 63))) := by
              have hK2 : Keeps (fun b => b = EX) wq ((wq.setCell ⟨EX, k, none⟩ (.pointer (some ⟨wq.heap.size, 0, none⟩))).alloc (.cells #[.slice xp (M k).n xc, .int .i64 (sz k)] 63)) := (keeps_set' (Keeps.refl _ _) _ _).alloc _
              have hws := hq2.size
              refine ⟨fun j hj => ?_, (ex_set (HC.out.2.1.later hq2) hlt (some wq.heap.size)).alloc _, (keeps_then' hq2 HC.out.2.2).trans hK2⟩
              by_cases e : j = k
              · simp only [upd, e, if_true]
                refine ⟨fun q hq => ?_⟩
                cases hq
                refine ⟨by omega, ?_, (hx.mono (by show W.heap.size ≤ wr.heap.size; omega)).keeps hK2 (fun b hb h => by omega)⟩
                have hsz : (wq.setCell ⟨EX, k, none⟩ (.pointer (some ⟨wq.heap.size, 0, none⟩))).heap.size = wq.heap.size := by simp [World.setCell]
                have hC := (cells_new (wq.setCell ⟨EX, k, none⟩ (.pointer (some ⟨wq.heap.size, 0, none⟩))) #[.slice xp (M k).n xc, .int .i64 (sz k)] 63).cell 0 (by simp)
                rw [hsz] at hC
                exact hC
              · simp only [upd, e, if_false]
                exact ((HC.out.1 j hj).keeps (Keeps.of_below (S := fun b => b = EX) hq2) (fun b hb h => by omega)).keeps hK2 (fun b hb h => by omega)
            clear HC hx hq2
            go_wp2_with fail
            go_roundw
            case rel => exact ⟨k + 1, by omega, by go_num, _, _, HQ.out.1, HQ.out.2.1, HQ.out.2.2⟩
            case measure => simp [intOf]; omega
          -- B>
        · obtain ⟨W2, rfl⟩ : ∃ x, x = wr := ⟨wr, rfl⟩
          have hE2 := hC
          have a14' := hKr.cell (p := ⟨AG, 14, none⟩) e3 a14
          have hbw2 : Below w.heap.size w W2 := hbw1.trans (hKr.below hbw1.size (fun k e => by subst e; exact hsE))
          have hSt : St34 AG V FA ST EX AS n1 n2 me W.heap.size p1 v t va vt vp vk S has X E w W2 := by
            have k1 := HS.out.2.2
            have hL := HL.out
            refine ⟨(HI.out.a.keeps k1 e1 (fun h => hSF h.symm)).keeps hKr e3 (fun h => hEF h.symm), hKr.cells hL.hVE (k1.cells hL.hVS HI.out.view), hKr.cells hL.hSE HS.out.2.1, hC, fun i hi => (HS.out.1 i hi).keeps hKr (fun b hb h => by omega), hE, hKr.cell hL.nE (k1.cell hL.nS HI.out.as1), hKr.cell hL.nE (k1.cell hL.nS HI.out.as2), ?_, Nat.le_trans hWl hKr.size, hbw2⟩
            obtain ⟨b, o, e, hc⟩ := HI.out.inp.v h0
            refine ⟨b, o, e, World.block_lt_of_cell? _ _ (hc 0 h0).1, fun i hi => ?_⟩
            obtain ⟨q0, q1, q2, q3⟩ := hc i hi
            exact ⟨cell_later hbw2 q0, cell_later hbw2 q1, cell_later hbw2 q2, cell_later hbw2 q3⟩
          have HST : Hid (St34 AG V FA ST EX AS n1 n2 me W.heap.size p1 v t va vt vp vk S has X E w W2) := hSt
          have hlw : W.heap.size ≤ W2.heap.size := Nat.le_trans hWl hKr.size
          clear hSt hC hE hKr hbw1 hbw2 HS HI a14
          by_cases hl1 : k < n1
          · have g1 : decide ((k : Int) < (n1 : Int)) = true := by simp; omega
            have g2 : decide ((k : Int) < (n3 : Int)) = false := by simp; omega
            go_upto_region 34 with fail
            go_cut [22] from 161 to 201 (fun s wx => ∃ OR cO, s = .slice (some ⟨OR, 0, none⟩) n1 cO ∧ Cells wx OR n1 (exOf X) ∧ W2.heap.size ≤ OR ∧ Below W2.heap.size W2 wx)
            case first =>
              go_wp2_with fail
              refine (clone_any EX n1 (exOf X) W2 h0 h1 hE2 (fun i _ => rfl)).mono ?_
              rintro e W3 ⟨OR, cO, rfl, hOR, hCO, hb3⟩
              go_wp2_with fail
              go_meet
              exact ⟨OR, cO, rfl, hCO, hOR, hb3⟩
            case rest =>
            obtain ⟨OR, cO, rfl, hCO, hOR, hb3⟩ := hcut
            apply_assumption
            exact lrn_35w AG V FA ST EX AS OR cO n1 n2 me ag W.heap.size c1 c2 p1 p2 v t va vt vp vk S has X E w wc h0 h1 h2 hag HL.out (HST.out.later hb3) hCO (Nat.le_trans hlw hOR) _ _ _ _ _ _ _ _ _ _ _ _ _ _ _ _ _ _ _ _ _ _ _ _ _ _ _ _ _ _ _ _ _ _ _ _ _ _ _ _ _ _ _ _ _ _ _ _ _ _ _ _ _ _ _ _ _ _ _ _ _ _ _ _ _ _ _ _ _ _ _ _ _ _ _ _ _ _ _ _ _ _ _ _ _ _ _ _ _ _ _ _ _ _ _ _ _ _ _ _ _ _ _ _ _ _ _ _ _ _ _ _ _ _ _ _ _ _ _ _ _ _ _ _ _ _ _ _ _ _ _ _ _ _ _ _ _ _ _ _ _ _ _ _ _ _ _ _ _ _ _ _ _ _ _ _ _ _ _ _ _ _ _ _ _ _ _ _ _ _ _ _ _ _ _ _ _ _ _ _ _ _ _ _ _ _ _ _ _ _ _ _ _ _ _ _ _ _ _ _ _ _ _ _ _ _ _ _ _ _ _ _ _ _ _ _ _ _ _ _ _ _ _ _ _ _ _ _ _ _ _ _ _ _ _ _ _ _ _ _ _ _ _ _ _ _ _ _ _ _ _ _ _ _ _ _ _ _ _ _ _ _ _ _ _ _ _ _ _ _ _ _ _ _ _ _ _ _ _ _ _ _ _ _ _ _ _ _ _ _ _ _ _ _ _ _ _ _ _ _ _ _ _ _ _ _ _ _ _ _ _ _ _ _ _ _ _ _ _ _ _ _ _ _ _ _ _ _ _ _ _ _ _ _ _ _ _ _ _ _ _ _ _ _ _ _ _ _ _ _ _ _ _ _ _ _ _ _ _ _ _ _ _ _ _ _ _ _ _ _ _ _ _ _ _ _ _ _ _ _ _ _ _ _ _ _ _ _ _ _ _ _ _ _ _ _ _ _ _ _ _ _ _ _ _ _ _ _ _ _ _ _ _ _ _ _ _ _ _
          · have g1 : decide ((k : Int) < (n1 : Int)) = false := by simp; omega
            go_upto_region 34 with fail
            go_cut [22] from 161 to 201 (fun s wx => ∃ OR cO, s = .slice (some ⟨OR, 0, none⟩) n1 cO ∧ Cells wx OR n1 (exOf X) ∧ W2.heap.size ≤ OR ∧ Below W2.heap.size W2 wx)
            case first =>
              go_wp2_with fail
              refine (clone_any EX n1 (exOf X) W2 h0 h1 hE2 (fun i _ => rfl)).mono ?_
              rintro e W3 ⟨OR, cO, rfl, hOR, hCO, hb3⟩
              go_wp2_with fail
              go_meet
              exact ⟨OR, cO, rfl, hCO, hOR, hb3⟩
            case rest =>
            obtain ⟨OR, cO, rfl, hCO, hOR, hb3⟩ := hcut
            apply_assumption
            exact lrn_35w AG V FA ST EX AS OR cO n1 n2 me ag W.heap.size c1 c2 p1 p2 v t va vt vp vk S has X E w wc h0 h1 h2 hag HL.out (HST.out.later hb3) hCO (Nat.le_trans hlw hOR) _ _ _ _ _ _ _ _ _ _ _ _ _ _ _ _ _ _ _ _ _ _ _ _ _ _ _ _ _ _ _ _ _ _ _ _ _ _ _ _ _ _ _ _ _ _ _ _ _ _ _ _ _ _ _ _ _ _ _ _ _ _ _ _ _ _ _ _ _ _ _ _ _ _ _ _ _ _ _ _ _ _ _ _ _ _ _ _ _ _ _ _ _ _ _ _ _ _ _ _ _ _ _ _ _ _ _ _ _ _ _ _ _ _ _ _ _ _ _ _ _ _ _ _ _ _ _ _ _ _ _ _ _ _ _ _ _ _ _ _ _ _ _ _ _ _ _ _ _ _ _ _ _ _ _ _ _ _ _ _ _ _ _ _ _ _ _ _ _ _ _ _ _ _ _ _ _ _ _ _ _ _ _ _ _ _ _ _ _ _ _ _ _ _ _ _ _ _ _ _ _ _ _ _ _ _ _ _ _ _ _ _ _ _ _ _ _ _ _ _ _ _ _ _ _ _ _ _ _ _ _ _ _ _ _ _ _ _ _ _ _ _ _ _ _ _ _ _ _ _ _ _ _ _ _ _ _ _ _ _ _ _ _ _ _ _ _ _ _ _ _ _ _ _ _ _ _ _ _ _ _ _ _ _ _ _ _ _ _ _ _ _ _ _ _ _ _ _ _ _ _ _ _ _ _ _ _ _ _ _ _ _ _ _ _ _ _ _ _ _ _ _ _ _ _ _ _ _ _ _ _ _ _ _ _ _ _ _ _ _ _ _ _ _ _ _ _ _ _ _ _ _ _ _ _ _ _ _ _ _ _ _ _ _ _ _ _ _ _ _ _ _ _ _ _ _ _ _ _ _ _ _ _ _ _ _ _ _ _ _ _ _ _ _ _ _ _ _ _ _ _ _ _ _ _ _ _ _ _ _ _ _ _ _ _ _ _ _ _
end Go.Proofs.Ybulkclmc
