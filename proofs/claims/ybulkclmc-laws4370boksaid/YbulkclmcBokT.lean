import Derived.Test.YbulkclmcBokY3
import Derived.LaidEqlPtr
namespace Go.Proofs.Ybulkclmc
open Go.RowKit

theorem neq39 (O : Nat) (w : World) : (binOp .neq 39 (.pointer (some ⟨O, 0, none⟩)) (.pointer (some ⟨O, 0, none⟩))).run Yba.prog w = .ok (.bool false) w := by
  obtain ⟨j, hj⟩ : ∃ j, Yba.prog.info? 81 = some j := Option.isSome_iff_exists.1 (by kernel_rfl)
  have h : ∀ d : Nat, (Op.equalIn (d + 1) 39 (.pointer (some ⟨O, 0, none⟩)) (.pointer (some ⟨O, 0, none⟩))).run Yba.prog w = .ok true w := fun d => by
    simp [Op.equalIn, run_underlying Yba.underlying39, sizeOf, typeInfo, hj, run_sameAddr_same]
  simp only [binOp]
  simp [Op.equal, Op.maxDepth, h 9999]
theorem eql76n (R : Nat) (w : World) : (binOp .eql 76 (.pointer (some ⟨R, 0, none⟩)) (.pointer none)).run Yba.prog w = .ok (.bool false) w := by
  have h : ∀ d : Nat, (Op.equalIn (d + 1) 76 (.pointer (some ⟨R, 0, none⟩)) (.pointer none)).run Yba.prog w = .ok false w := fun d => by
    simp [Op.equalIn, run_underlying Yba.underlying76]
  simp only [binOp]
  simp [Op.equal, Op.maxDepth, h 9999]

/-- what stands behind ok -/
structure St34b (AG JA OR OA DB ST PB R na m n5 c n sc : Nat) (p5 sp : Option Addr) (rk ord : Nat → Nat) (has hs pr : Nat → Bool) (LB : Nat → Nat) (L : Nat → Lb) (LP : Nat → Option Addr) (LN LC : Nat → Nat) (f : Nat → Nat → As) (g : Nat → As) (v tag : Int) (W : World) : Prop where
  oc : OkC2 R OR (sizeTo hs pr m) v tag (.slice sp n sc) W
  nil : n = 0 → sp = none
  pos : 0 < n → ∃ M, sp = some ⟨M, 0, none⟩ ∧ ∀ i, i < n * 3 → W.cell? ⟨M, i, none⟩ = some (asC g i)
  j : Joined na g n (fun k => bestAll k hs LN f m)
  s : SortedTo rk g n
  d : W.cell? ⟨DB, c, none⟩ = some (.int .i64 v)
  p : ∀ i, i < m → W.cell? ⟨PB, i, none⟩ = some (.bool (pr i))
  sto : Sto ST na n5 LB L has W
  stor : StoR ST m hs LP LN LC f W
  ng : NgIn p5 n5 L has W
  nl : ∀ i, i < n5 → (L i).n ≤ 300
  o0 : W.cell? ⟨OR, 0, none⟩ = some (.slice (some ⟨OA, 0, none⟩) na na)
  oa : ∀ p, p < na → W.cell? ⟨OA, p, none⟩ = some (.int .i64 (ord p))
  hr : ∀ p, p < na → ord p < na ∧ rk (ord p) = p
  hk : ∀ k, k < na → rk k < na ∧ ord (rk k) = k
  a26 : W.cell? ⟨AG, 26, none⟩ = some (.slice (some ⟨JA, 0, none⟩) na na)
  z : Cells W JA na (atC (fun _ => 0))

theorem Sto.keepsB {ST na n5 : Nat} {LB : Nat → Nat} {L : Nat → Lb} {has : Nat → Bool} {w w' : World} (h : Sto ST na n5 LB L has w) (hb : Below w.heap.size w w') : Sto ST na n5 LB L has w' := h.later hb

set_option maxRecDepth 1000000 in
set_option maxHeartbeats 8000000 in
theorem bok_34 (AG JA OR OA DB ST PB R na m n5 c5 c n sc : Nat) (p5 sp : Option Addr) (rk ord : Nat → Nat) (has hs pr : Nat → Bool) (LB : Nat → Nat) (L : Nat → Lb) (LP : Nat → Option Addr) (LN LC : Nat → Nat) (f : Nat → Nat → As) (g : Nat → As) (v tag : Int) (w W : World)
    (hI : St34b AG JA OR OA DB ST PB R na m n5 c n sc p5 sp rk ord has hs pr LB L LP LN LC f g v tag W) (hmm : m = n5 + 1) (h5 : n5 ≤ 300) (hna0 : 0 < na) (hna : na ≤ 6) (hc : c < m) (hbw : Below w.heap.size w W)
    (x0 x1 x2 x3 x4 x6 x7 x9 x10 x11 x12 x13 x14 x15 x16 x17 x18 x19 x20 x26 x27 x28 x29 x34 x35 x36 x37 x38 x39 x40 x41 x42 x43 x44 x45 x46 x47 x48 x49 x50 x51 x52 x53 x54 x55 x56 x57 x58 x59 x60 x61 x62 x63 x64 x65 x66 x67 x68 x69 x70 x71 x72 x73 x74 x75 x76 x77 x78 x79 x80 x81 x82 x83 x84 x85 x86 x87 x88 x89 x90 x91 x92 x93 x94 x95 x96 x97 x98 x99 x100 x101 x102 x103 x104 x105 x106 x107 x108 x109 x110 x111 x112 x113 x114 x115 x116 x117 x118 x119 x120 x121 x122 x123 x124 x125 x126 x127 x128 x129 x130 x131 x132 x133 x134 x135 x136 x137 x138 x139 x140 x141 x142 x143 x144 x145 x146 x147 x148 x149 x150 x151 x152 x153 x154 x155 x156 x157 x158 x159 x160 x161 x162 x163 x164 x165 x166 x167 x168 x169 x170 x171 x172 x173 x174 x175 x176 x177 x178 x179 x180 x181 x182 x183 x184 x185 x186 x187 x188 x189 x190 x191 x192 x193 x194 x195 x196 x197 x198 x199 x200 x201 x202 x203 x204 x205 x206 x207 x208 x209 x210 x211 x212 x213 x214 x215 x216 x217 x218 x219 x220 x221 x222 x223 x224 x225 x226 x227 x228 x229 x230 x231 x232 x233 x234 x235 x236 x237 x238 x239 x240 x241 x242 x243 x244 x245 x246 x247 x248 x249 x250 x251 x252 x253 x254 x255 x256 x257 x258 x259 x260 x261 x262 x263 x264 x265 x266 x267 x268 x269 x270 x271 x272 x273 x274 x275 x276 x277 x278 x279 x280 x281 x282 x283 x284 x285 x286 x287 x288 x289 x290 x291 x292 x293 x294 x295 x296 x297 x298 x299 x300 x301 x302 x303 x304 x305 x306 x307 x308 x309 x310 x311 x312 x313 x314 x315 x316 x317 x318 x319 x320 x321 x322 x323 x324 x325 x326 x327 x328 x329 x330 x331 x332 x333 x334 x335 x336 x337 x338 x339 x340 x341 x342 x343 x344 x345 x346 x347 x348 x349 x350 x351 x352 x353 x354 x355 x356 x357 x358 x359 x360 x361 x362 x363 x364 x365 x366 x367 x368 x369 x370 x371 x372 x373 x374 x375 x376 x377 x378 x379 x380 x381 x382 x383 x384 x385 x386 x387 x388 x389 x390 x391 x392 x393 x394 x395 x396 x397 x398 x399 : Value) :
    Code.wp Yba.prog (codeAt Yba.f4 34) (bodyPost Yba.prog Yba.f4 (fun e w' => e = .returned (.bool true) ∧ Below w.heap.size w w')) ⟨#[x0, x1, x2, x3, x4, .slice p5 n5 c5, x6, x7, .int .i64 tag, x9, x10, x11, x12, x13, x14, x15, x16, x17, x18, x19, x20, .int .i64 na, .int .i64 m, .slice (some ⟨DB, 0, none⟩) m m, .slice (some ⟨ST, 0, none⟩) m m, .slice (some ⟨PB, 0, none⟩) m m, x26, x27, x28, x29, .pointer (some ⟨OR, 0, none⟩), .int .i64 c, .pointer (some ⟨AG, 0, none⟩), .pointer (some ⟨R, 0, none⟩), x34, x35, x36, x37, x38, x39, x40, x41, x42, x43, x44, x45, x46, x47, x48, x49, x50, x51, x52, x53, x54, x55, x56, x57, x58, x59, x60, x61, x62, x63, x64, x65, x66, x67, x68, x69, x70, x71, x72, x73, x74, x75, x76, x77, x78, x79, x80, x81, x82, x83, x84, x85, x86, x87, x88, x89, x90, x91, x92, x93, x94, x95, x96, x97, x98, x99, x100, x101, x102, x103, x104, x105, x106, x107, x108, x109, x110, x111, x112, x113, x114, x115, x116, x117, x118, x119, x120, x121, x122, x123, x124, x125, x126, x127, x128, x129, x130, x131, x132, x133, x134, x135, x136, x137, x138, x139, x140, x141, x142, x143, x144, x145, x146, x147, x148, x149, x150, x151, x152, x153, x154, x155, x156, x157, x158, x159, x160, x161, x162, x163, x164, x165, x166, x167, x168, x169, x170, x171, x172, x173, x174, x175, x176, x177, x178, x179, x180, x181, x182, x183, x184, x185, x186, x187, x188, x189, x190, x191, x192, x193, x194, x195, x196, x197, x198, x199, x200, x201, x202, x203, x204, x205, x206, x207, x208, x209, x210, x211, x212, x213, x214, x215, x216, x217, x218, x219, x220, x221, x222, x223, x224, x225, x226, x227, x228, x229, x230, x231, x232, x233, x234, x235, x236, x237, x238, x239, x240, x241, x242, x243, x244, x245, x246, x247, x248, x249, x250, x251, x252, x253, x254, x255, x256, x257, x258, x259, x260, x261, x262, x263, x264, x265, x266, x267, x268, x269, x270, x271, x272, x273, x274, x275, x276, x277, x278, x279, x280, x281, x282, x283, x284, x285, x286, x287, x288, x289, x290, x291, x292, x293, x294, x295, x296, x297, x298, x299, x300, x301, x302, x303, x304, x305, x306, x307, x308, x309, x310, x311, x312, x313, x314, x315, x316, x317, x318, x319, x320, x321, x322, x323, x324, x325, x326, x327, x328, x329, x330, x331, x332, x333, x334, x335, x336, x337, x338, x339, x340, x341, x342, x343, x344, x345, x346, x347, x348, x349, x350, x351, x352, x353, x354, x355, x356, x357, x358, x359, x360, x361, x362, x363, x364, x365, x366, x367, x368, x369, x370, x371, x372, x373, x374, x375, x376, x377, x378, x379, x380, x381, x382, x383, x384, x385, x386, x387, x388, x389, x390, x391, x392, x393, x394, x395, x396, x397, x398, x399], []⟩ W := by
  have HI : Hid (St34b AG JA OR OA DB ST PB R na m n5 c n sc p5 sp rk ord has hs pr LB L LP LN LC f g v tag W ∧ Below w.heap.size w W) := ⟨hI, hbw⟩
  have HMM : Hid (m = n5 + 1) := hmm
  have hm : m ≤ 301 := by omega
  have r0 := hI.oc.c0
  have r1 := hI.oc.c1
  have r2 := hI.oc.c2
  have r5 := hI.oc.c5
  have d0 := hI.d
  have q1 := neq39 OR
  have q2 := eql76n R
  have i1 : (0 : Int) ≤ (c : Int) := by omega
  have i2 : (c : Int) < (m : Int) := by omega
  have hsz := sizeTo_le hs pr m
  clear hI hbw hmm
  conv => arg 2; whnf
  go_upto_region 34 with fail
  have v1 : (v != v) = false := by simp
  have v2 : (tag != tag) = false := by simp
  go_quiet (fail)
  obtain ⟨W1, hW1⟩ : ∃ x, x = W.drewN nq := ⟨_, rfl⟩
  have hb1 : Below W.heap.size W (W.drewN nq) := bl_drewN (Below.refl _ _) _
  have HB1 : Hid (Below W.heap.size W (W.drewN nq)) := hb1
  clear hb1 hW1
  go_wp2_with fail
  refine bok_38 ST PB m hs pr _ (fun i hi => cell_later HB1.out (HI.out.1.stor.st i hi).2) (fun i hi => cell_later HB1.out (HI.out.1.p i hi)) hm _ _ _ _ _ _ _ _ _ _ _ _ _ _ _ _ _ _ _ _ _ _ _ _ _ _ _ _ _ _ _ _ _ _ _ _ _ _ _ _ _ _ _ _ _ _ _ _ _ _ _ _ _ _ _ _ _ _ _ _ _ _ _ _ _ _ _ _ _ _ _ _ _ _ _ _ _ _ _ _ _ _ _ _ _ _ _ _ _ _ _ _ _ _ _ _ _ _ _ _ _ _ _ _ _ _ _ _ _ _ _ _ _ _ _ _ _ _ _ _ _ _ _ _ _ _ _ _ _ _ _ _ _ _ _ _ _ _ _ _ _ _ _ _ _ _ _ _ _ _ _ _ _ _ _ _ _ _ _ _ _ _ _ _ _ _ _ _ _ _ _ _ _ _ _ _ _ _ _ _ _ _ _ _ _ _ _ _ _ _ _ _ _ _ _ _ _ _ _ _ _ _ _ _ _ _ _ _ _ _ _ _ _ _ _ _ _ _ _ _ _ _ _ _ _ _ _ _ _ _ _ _ _ _ _ _ _ _ _ _ _ _ _ _ _ _ _ _ _ _ _ _ _ _ _ _ _ _ _ _ _ _ _ _ _ _ _ _ _ _ _ _ _ _ _ _ _ _ _ _ _ _ _ _ _ _ _ _ _ _ _ _ _ _ _ _ _ _ _ _ _ _ _ _ _ _ _ _ _ _ _ _ _ _ _ _ _ _ _ _ _ _ _ _ _ _ _ _ _ _ _ _ _ _ _ _ _ _ _ _ _ _ _ _ _ _ _ _ _ _ _ _ _ _ _ _ _ _ _ _ _ _ _ _ _ _ _ _ _ _ _ _ _ _ _ _ _ _ _ _ _ _ _ _ _ _ _ _ _ _ _ _ _ _ _ _ ?_
  rintro wc _ _ _ _ _ _ _ _ _ _ _ _ _ _ _ _ _ _ _ _ _ rfl
  have r4 := cell_later HB1.out HI.out.1.oc.c4
  clear r0 r1 r2 r5 d0 q1 q2
  generalize hszz : sizeTo hs pr m = sz at *
  go_wp2_with fail
  refine bok_46 ST m na OR OA rk ord hs LP LN LC f _ (HI.out.1.stor.later HB1.out) (cell_later HB1.out HI.out.1.o0) (fun p hp => cell_later HB1.out (HI.out.1.oa p hp)) HI.out.1.hr hm hna _ _ _ _ _ _ _ _ _ _ _ _ _ _ _ _ _ _ _ _ _ _ _ _ _ _ _ _ _ _ _ _ _ _ _ _ _ _ _ _ _ _ _ _ _ _ _ _ _ _ _ _ _ _ _ _ _ _ _ _ _ _ _ _ _ _ _ _ _ _ _ _ _ _ _ _ _ _ _ _ _ _ _ _ _ _ _ _ _ _ _ _ _ _ _ _ _ _ _ _ _ _ _ _ _ _ _ _ _ _ _ _ _ _ _ _ _ _ _ _ _ _ _ _ _ _ _ _ _ _ _ _ _ _ _ _ _ _ _ _ _ _ _ _ _ _ _ _ _ _ _ _ _ _ _ _ _ _ _ _ _ _ _ _ _ _ _ _ _ _ _ _ _ _ _ _ _ _ _ _ _ _ _ _ _ _ _ _ _ _ _ _ _ _ _ _ _ _ _ _ _ _ _ _ _ _ _ _ _ _ _ _ _ _ _ _ _ _ _ _ _ _ _ _ _ _ _ _ _ _ _ _ _ _ _ _ _ _ _ _ _ _ _ _ _ _ _ _ _ _ _ _ _ _ _ _ _ _ _ _ _ _ _ _ _ _ _ _ _ _ _ _ _ _ _ _ _ _ _ _ _ _ _ _ _ _ _ _ _ _ _ _ _ _ _ _ _ _ _ _ _ _ _ _ _ _ _ _ _ _ _ _ _ _ _ _ _ _ _ _ _ _ _ _ _ _ _ _ _ _ _ _ _ _ _ _ _ _ _ _ _ _ _ _ _ _ _ _ _ _ _ _ _ _ _ _ _ _ _ _ _ _ _ _ _ _ _ _ _ _ _ _ _ _ _ _ _ _ _ _ _ _ _ _ _ _ _ _ _ _ _ _ _ _ _ ?_
  rintro W2 z36 _ _ _ _ _ _ _ _ _ _ _ _ _ _ _ _ _ _ _ _ _ _ _ _ _ _ _ _ _ _ _ _ _ _ _ _ _ _ _ _ _ _ _ _ _ _ _ _ _ _ _ _ _ _ _ _ _ _ _ _ _ ⟨⟨sp2, n2, sc2, g2, rfl, hRow, hWant⟩, hb2⟩
  have hb2' : Below W.heap.size W W2 := bl_then hb2 HB1.out
  have hsame : n = n2 ∧ ∀ i, i < n → g i = g2 i := by
    have hJ := HI.out.1.j
    refine sorted_same n n2 g g2 HI.out.1.s hWant.s (fun i hi => ?_) (fun j hj => ?_)
    · have hl := hJ.lt i hi
      obtain ⟨h1, h2⟩ := HI.out.1.hk _ hl
      cases ho : bestAll (g i).k hs LN f m with
      | none => exact absurd rfl (hJ.none _ hl ho i hi)
      | some y =>
        obtain ⟨i', hi', e1, e2⟩ := hJ.some _ y hl ho
        have : i' = i := hJ.dis i' i hi' hi (by rw [e1, e2])
        subst this
        obtain ⟨q, hq, e⟩ := hWant.all _ h1 y (by rw [h2]; exact ho)
        exact ⟨q, hq, e.trans e1.symm⟩
    · obtain ⟨q, hq, e⟩ := hWant.mem j hj
      obtain ⟨i, hi, e1, _⟩ := hJ.some _ _ (HI.out.1.hr q hq).1 e
      exact ⟨i, hi, e1⟩
  obtain ⟨rfl, hgg⟩ := hsame
  have hn6 := HI.out.1.j.le
  have r3 := cell_later hb2' HI.out.1.oc.c3
  have HF : Hid (Below W.heap.size W W2 ∧ (∀ i, i < n → g i = g2 i) ∧ RowA W2 (W.drewN nq).heap.size (.slice sp2 n sc2) g2 n) := ⟨hb2', hgg, hRow⟩
  clear hb2 hb2' hgg hRow hWant r4
  go_wp2_with fail
  refine bok_67 R n sc sc2 sp sp2 g g2 W2 r3 (fun hn => ?_) (fun hn => ?_) HF.out.2.1 (by omega) _ _ _ _ _ _ _ _ _ _ _ _ _ _ _ _ _ _ _ _ _ _ _ _ _ _ _ _ _ _ _ _ _ _ _ _ _ _ _ _ _ _ _ _ _ _ _ _ _ _ _ _ _ _ _ _ _ _ _ _ _ _ _ _ _ _ _ _ _ _ _ _ _ _ _ _ _ _ _ _ _ _ _ _ _ _ _ _ _ _ _ _ _ _ _ _ _ _ _ _ _ _ _ _ _ _ _ _ _ _ _ _ _ _ _ _ _ _ _ _ _ _ _ _ _ _ _ _ _ _ _ _ _ _ _ _ _ _ _ _ _ _ _ _ _ _ _ _ _ _ _ _ _ _ _ _ _ _ _ _ _ _ _ _ _ _ _ _ _ _ _ _ _ _ _ _ _ _ _ _ _ _ _ _ _ _ _ _ _ _ _ _ _ _ _ _ _ _ _ _ _ _ _ _ _ _ _ _ _ _ _ _ _ _ _ _ _ _ _ _ _ _ _ _ _ _ _ _ _ _ _ _ _ _ _ _ _ _ _ _ _ _ _ _ _ _ _ _ _ _ _ _ _ _ _ _ _ _ _ _ _ _ _ _ _ _ _ _ _ _ _ _ _ _ _ _ _ _ _ _ _ _ _ _ _ _ _ _ _ _ _ _ _ _ _ _ _ _ _ _ _ _ _ _ _ _ _ _ _ _ _ _ _ _ _ _ _ _ _ _ _ _ _ _ _ _ _ _ _ _ _ _ _ _ _ _ _ _ _ _ _ _ _ _ _ _ _ _ _ _ _ _ _ _ _ _ _ _ _ _ _ _ _ _ _ _ _ _ _ _ _ _ _ _ _ _ _ _ _ _ _ _ _ _ _ _ _ _ _ _ _ _ _ _ _ _ _ ?_
  · obtain ⟨M, e, hc⟩ := HI.out.1.pos hn
    exact ⟨M, e, fun i hi => cell_later HF.out.1 (hc i hi)⟩
  · obtain ⟨M, cap, hv, _, hC⟩ := HF.out.2.2.form hn
    simp at hv
    exact ⟨M, hv.1, fun i hi => hC.cell i hi⟩
  rintro W3 _ _ _ _ _ _ _ _ _ _ _ _ _ _ _ _ _ _ _ hb3
  have hb3' : Below W.heap.size W W3 := bl_then hb3 HF.out.1
  have HG : Hid (Below W.heap.size W W3) := hb3'
  clear hb3 hb3' HF r3
  go_wp2_with fail
  refine bok_73 ST na n5 c5 m HMM.out p5 LB L has W3 (HI.out.1.sto.later HG.out) (HI.out.1.ng.later HG.out) h5 HI.out.1.nl hna0 hna _ _ _ _ _ _ _ _ _ _ _ _ _ _ _ _ _ _ _ _ _ _ _ _ _ _ _ _ _ _ _ _ _ _ _ _ _ _ _ _ _ _ _ _ _ _ _ _ _ _ _ _ _ _ _ _ _ _ _ _ _ _ _ _ _ _ _ _ _ _ _ _ _ _ _ _ _ _ _ _ _ _ _ _ _ _ _ _ _ _ _ _ _ _ _ _ _ _ _ _ _ _ _ _ _ _ _ _ _ _ _ _ _ _ _ _ _ _ _ _ _ _ _ _ _ _ _ _ _ _ _ _ _ _ _ _ _ _ _ _ _ _ _ _ _ _ _ _ _ _ _ _ _ _ _ _ _ _ _ _ _ _ _ _ _ _ _ _ _ _ _ _ _ _ _ _ _ _ _ _ _ _ _ _ _ _ _ _ _ _ _ _ _ _ _ _ _ _ _ _ _ _ _ _ _ _ _ _ _ _ _ _ _ _ _ _ _ _ _ _ _ _ _ _ _ _ _ _ _ _ _ _ _ _ _ _ _ _ _ _ _ _ _ _ _ _ _ _ _ _ _ _ _ _ _ _ _ _ _ _ _ _ _ _ _ _ _ _ _ _ _ _ _ _ _ _ _ _ _ _ _ _ _ _ _ _ _ _ _ _ _ _ _ _ _ _ _ _ _ _ _ _ _ _ _ _ _ _ _ _ _ _ _ _ _ _ _ _ _ _ _ _ _ _ _ _ _ _ _ _ _ _ _ _ _ _ _ _ _ _ _ _ _ _ _ _ _ _ _ _ _ _ _ _ _ _ _ _ _ _ _ _ _ _ _ _ _ _ _ _ _ _ _ _ _ _ _ _ _ _ _ _ _ _ _ _ _ _ _ _ _ _ _ _ _ _ _ ?_
  rintro W4 _ _ _ _ _ _ _ _ _ _ _ _ _ _ _ _ _ _ _ _ _ _ _ _ _ _ _ _ _ _ _ _ _ _ _ _ _ _ _ _ _ _ _ _ _ _ _ _ _ _ _ _ _ _ _ _ _ _ _ _ _ _ _ _ _ _ _ hb4
  have HJ : Hid (Below W.heap.size W W4) := bl_then hb4 HG.out
  clear hb4 HG
  go_wp2_with fail
  refine bok_84 AG JA na W4 (cell_later HJ.out HI.out.1.a26) (HI.out.1.z.later HJ.out) hna _ _ _ _ _ _ _ _ _ _ _ _ _ _ _ _ _ _ _ _ _ _ _ _ _ _ _ _ _ _ _ _ _ _ _ _ _ _ _ _ _ _ _ _ _ _ _ _ _ _ _ _ _ _ _ _ _ _ _ _ _ _ _ _ _ _ _ _ _ _ _ _ _ _ _ _ _ _ _ _ _ _ _ _ _ _ _ _ _ _ _ _ _ _ _ _ _ _ _ _ _ _ _ _ _ _ _ _ _ _ _ _ _ _ _ _ _ _ _ _ _ _ _ _ _ _ _ _ _ _ _ _ _ _ _ _ _ _ _ _ _ _ _ _ _ _ _ _ _ _ _ _ _ _ _ _ _ _ _ _ _ _ _ _ _ _ _ _ _ _ _ _ _ _ _ _ _ _ _ _ _ _ _ _ _ _ _ _ _ _ _ _ _ _ _ _ _ _ _ _ _ _ _ _ _ _ _ _ _ _ _ _ _ _ _ _ _ _ _ _ _ _ _ _ _ _ _ _ _ _ _ _ _ _ _ _ _ _ _ _ _ _ _ _ _ _ _ _ _ _ _ _ _ _ _ _ _ _ _ _ _ _ _ _ _ _ _ _ _ _ _ _ _ _ _ _ _ _ _ _ _ _ _ _ _ _ _ _ _ _ _ _ _ _ _ _ _ _ _ _ _ _ _ _ _ _ _ _ _ _ _ _ _ _ _ _ _ _ _ _ _ _ _ _ _ _ _ _ _ _ _ _ _ _ _ _ _ _ _ _ _ _ _ _ _ _ _ _ _ _ _ _ _ _ _ _ _ _ _ _ _ _ _ _ _ _ _ _ _ _ _ _ _ _ _ _ _ _ _ _ _ _ _ _ _ _ _ _ _ _ _ _ _ _ _ _ _ _ ?_
  rintro wc _ _ _ _ _ _ _ _ _ _ _ _ _ _ _ rfl
  go_wp2_with fail
  go_ret
  exact ⟨rfl, HI.out.2.trans (HJ.out.mono HI.out.2.size)⟩
end Go.Proofs.Ybulkclmc
