import Derived.Test.YbulkclnsV
namespace Go.Proofs.Ybulkclns
open Go.RowKit

theorem neq33n (w : World) : (binOp .neq 33 (.pointer none) (.pointer none)).run Yba.prog w = .ok (.bool false) w := by
  have h : ∀ d : Nat, (Op.equalIn (d + 1) 33 (.pointer none) (.pointer none)).run Yba.prog w = .ok true w := fun d => by
    simp [Op.equalIn, run_underlying Yba.underlying33]
  simp only [binOp]
  simp [Op.equal, Op.maxDepth, h 9999]

theorem eql69s (b : Nat) (w : World) : (binOp .eql 69 (.map (some b)) (.map none)).run Yba.prog w = .ok (.bool false) w := by
  have h : ∀ d : Nat, (Op.equalIn (d + 1) 69 (.map (some b)) (.map none)).run Yba.prog w = .ok false w := fun d => by
    simp [Op.equalIn, run_underlying Yba.underlying69]
  simp only [binOp]
  simp [Op.equal, Op.maxDepth, h 9999]

structure Rows2 (N LM n nm n0 : Nat) (sp1 sp2 : Option Addr) (g : Nat → Int) (q : Nat → Nat) (M : Int → Option Nat) (W : World) : Prop where
  k1 : 0 < n → ∃ b, sp1 = some ⟨b, 0, none⟩ ∧ ∀ i, i < n → W.cell? ⟨b, i, none⟩ = some (.int .i64 (g i))
  k2 : 0 < n → ∃ b, sp2 = some ⟨b, 0, none⟩ ∧ ∀ i, i < n → W.cell? ⟨b, i, none⟩ = some (.pointer (some ⟨q i, 0, none⟩))
  h14 : W.cell? ⟨N, 14, none⟩ = some (.map (some LM))
  m : MapP W LM M nm n0
  rng : ∀ i, i < n → 0 ≤ g i ∧ g i ≤ 100000
theorem Rows2.later {N LM n nm n0 : Nat} {sp1 sp2 : Option Addr} {g : Nat → Int} {q : Nat → Nat} {M : Int → Option Nat} {W W' : World} (h : Rows2 N LM n nm n0 sp1 sp2 g q M W) (hb : Below W.heap.size W W') : Rows2 N LM n nm n0 sp1 sp2 g q M W' :=
  ⟨fun hn => by obtain ⟨b, e, hc⟩ := h.k1 hn; exact ⟨b, e, fun i hi => cell_later hb (hc i hi)⟩, fun hn => by obtain ⟨b, e, hc⟩ := h.k2 hn; exact ⟨b, e, fun i hi => cell_later hb (hc i hi)⟩, cell_later hb h.h14, h.m.later hb, h.rng⟩

/-- what is known if the message is kept -/
structure Acc (n nm kk B : Nat) (g : Nat → Int) (q : Nat → Nat) (M : Int → Option Nat) (mh gn : Int) (p : Nat) (W : World) : Prop where
  mm : M mh = some p
  hq : ∀ i, i < n → ¬ g i = gn → M (g i) = some (q i)
  hg : ∀ i, i < n → g i = gn → M gn = none
  hd : ∀ i j, i < n → j < n → g i = g j → i = j
  old : ∀ j, fnd g mh n = some j → p = q j
  new : fnd g mh n = none → NewHS B p kk W
  sz : (nm : Int) = (n : Int) - (if (fnd g gn n).isSome then 1 else 0) + (if (fnd g mh n).isSome then 0 else 1)

set_option maxRecDepth 1000000 in
set_option maxHeartbeats 8000000 in
theorem mod_52 (N FH WB LM kk n nm n0 sc1 sc2 wcp B : Nat) (sp1 sp2 : Option Addr) (g : Nat → Int) (q : Nat → Nat) (M : Int → Option Nat) (o : Option Nat) (mh gn : Int) (rf : Bool) (f' : Nat → Int) (w W : World)
    (h15 : W.cell? ⟨N, 15, none⟩ = some (.slice (some ⟨FH, 0, none⟩) kk kk)) (hF : ∀ i, i < kk → W.cell? ⟨FH, i, none⟩ = some (.int .i64 (f' i))) (hB : ∀ i, i < kk → W.cell? ⟨WB, i, none⟩ = some (.int .i64 (f' i))) (hR : Rows2 N LM n nm n0 sp1 sp2 g q M W) (hn : n ≤ 1024) (hk : kk ≤ 6) (hm0 : 0 ≤ mh) (hm1 : mh ≤ 100000)
    (hrf : rf = true → o = none ∧ nm = n ∧ ∀ i, i < n → M (g i) = some (q i)) (hac : rf = false → ∃ p, o = some p ∧ Acc n nm kk B g q M mh gn p W) (hbw : Below w.heap.size w W)
    (x0 x1 x2 x3 x4 x5 x6 x7 x8 x9 x10 x11 x12 x14 x15 x16 x18 x19 x20 x21 x22 x25 x26 x27 x28 x29 x31 x36 x37 x38 x39 x40 x41 x42 x43 x44 x45 x46 x47 x48 x49 x50 x51 x52 x53 x54 x55 x56 x57 x58 x59 x60 x61 x62 x63 x64 x65 x66 x67 x68 x69 x70 x71 x72 x73 x74 x75 x76 x77 x78 x79 x80 x81 x82 x83 x84 x85 x86 x87 x88 x89 x90 x91 x92 x93 x94 x95 x96 x97 x98 x99 x100 x101 x102 x103 x104 x105 x106 x107 x108 x109 x110 x111 x112 x113 x114 x115 x116 x117 x118 x119 x120 x121 x122 x123 x124 x125 x126 x127 x128 x129 x130 x131 x132 x133 x134 x135 x136 x137 x138 x139 x140 x141 x142 x143 x144 x145 x146 x147 x148 x149 x150 x151 x152 x153 x154 x155 x156 x157 x158 x159 x160 x161 x162 x163 x164 x165 x166 x167 x168 x169 x170 x171 x172 x173 x174 x175 x176 x177 x178 x179 x180 x181 x182 x183 x184 x185 x186 x187 x188 x189 x190 x191 x192 x193 x194 x195 x196 x197 x198 x199 x200 x201 x202 x203 x204 x205 x206 x207 x208 x209 x210 x211 x212 x213 x214 x215 x216 x217 x218 x219 x220 x221 x222 x223 x224 x225 x226 x227 x228 x229 x230 x231 x232 x233 x234 x235 x236 x237 x238 x239 x240 x241 x242 x243 x244 x245 x246 x247 x248 x249 x250 x251 x252 x253 x254 x255 x256 x257 x258 x259 x260 x261 x262 x263 x264 x265 x266 x267 x268 x269 x270 x271 x272 x273 x274 x275 x276 x277 x278 x279 x280 x281 x282 x283 x284 x285 x286 x287 x288 x289 x290 x291 x292 x293 x294 x295 x296 x297 x298 x299 x300 x301 x302 x303 x304 x305 x306 x307 x308 x309 x310 x311 x312 x313 x314 x315 x316 x317 x318 x319 x320 x321 x322 x323 x324 x325 x326 x327 x328 x329 x330 x331 x332 x333 x334 x335 : Value) :
    Code.wp Yba.prog (codeAt Yba.f3 52) (bodyPost Yba.prog Yba.f3 (fun e w' => e = .returned (.bool true) ∧ Below w.heap.size w w')) ⟨#[x0, x1, x2, x3, x4, x5, x6, x7, x8, x9, x10, x11, x12, .int .i64 kk, x14, x15, x16, .int .i64 mh, x18, x19, x20, x21, x22, .slice sp1 n sc1, .slice sp2 n sc2, x25, x26, x27, x28, x29, .pointer (some ⟨N, 0, none⟩), x31, ptr o, .slice (some ⟨WB, 0, none⟩) kk wcp, .bool rf, .int .i64 gn, x36, x37, x38, x39, x40, x41, x42, x43, x44, x45, x46, x47, x48, x49, x50, x51, x52, x53, x54, x55, x56, x57, x58, x59, x60, x61, x62, x63, x64, x65, x66, x67, x68, x69, x70, x71, x72, x73, x74, x75, x76, x77, x78, x79, x80, x81, x82, x83, x84, x85, x86, x87, x88, x89, x90, x91, x92, x93, x94, x95, x96, x97, x98, x99, x100, x101, x102, x103, x104, x105, x106, x107, x108, x109, x110, x111, x112, x113, x114, x115, x116, x117, x118, x119, x120, x121, x122, x123, x124, x125, x126, x127, x128, x129, x130, x131, x132, x133, x134, x135, x136, x137, x138, x139, x140, x141, x142, x143, x144, x145, x146, x147, x148, x149, x150, x151, x152, x153, x154, x155, x156, x157, x158, x159, x160, x161, x162, x163, x164, x165, x166, x167, x168, x169, x170, x171, x172, x173, x174, x175, x176, x177, x178, x179, x180, x181, x182, x183, x184, x185, x186, x187, x188, x189, x190, x191, x192, x193, x194, x195, x196, x197, x198, x199, x200, x201, x202, x203, x204, x205, x206, x207, x208, x209, x210, x211, x212, x213, x214, x215, x216, x217, x218, x219, x220, x221, x222, x223, x224, x225, x226, x227, x228, x229, x230, x231, x232, x233, x234, x235, x236, x237, x238, x239, x240, x241, x242, x243, x244, x245, x246, x247, x248, x249, x250, x251, x252, x253, x254, x255, x256, x257, x258, x259, x260, x261, x262, x263, x264, x265, x266, x267, x268, x269, x270, x271, x272, x273, x274, x275, x276, x277, x278, x279, x280, x281, x282, x283, x284, x285, x286, x287, x288, x289, x290, x291, x292, x293, x294, x295, x296, x297, x298, x299, x300, x301, x302, x303, x304, x305, x306, x307, x308, x309, x310, x311, x312, x313, x314, x315, x316, x317, x318, x319, x320, x321, x322, x323, x324, x325, x326, x327, x328, x329, x330, x331, x332, x333, x334, x335], []⟩ W := by
  have HI : Hid (Rows2 N LM n nm n0 sp1 sp2 g q M W ∧ (rf = true → o = none ∧ nm = n ∧ ∀ i, i < n → M (g i) = some (q i)) ∧ (rf = false → ∃ p, o = some p ∧ Acc n nm kk B g q M mh gn p W) ∧ Below w.heap.size w W ∧ (∀ i, i < kk → W.cell? ⟨FH, i, none⟩ = some (.int .i64 (f' i))) ∧ ∀ i, i < kk → W.cell? ⟨WB, i, none⟩ = some (.int .i64 (f' i))) := ⟨hR, hrf, hac, hbw, hF, hB⟩
  clear hR hrf hac hbw hF hB
  conv => arg 2; whnf
  conv => arg 4; dsimp only
  go_wp2_with fail
  refine (equal_any FH WB kk kk wcp f' W (by omega) HI.out.2.2.2.2.1 HI.out.2.2.2.2.2).mono ?_
  rintro e W1 ⟨rfl, hb1⟩
  have HB1 : Hid (Below W.heap.size W W1) := hb1
  have hR1 := HI.out.1.later hb1
  have x14 := hR1.h14
  have hlen : ∀ ty, (Builtin.len_ #[30] ty #[.map (some LM)]).run Yba.prog W1 = .ok (.int .i64 nm) W1 := fun ty => hR1.m.len ty
  clear hb1 h15 hR1
  cases rf with
  | true =>
    obtain ⟨ho, hnm, hq⟩ := HI.out.2.1 rfl
    subst ho
    subst hnm
    have HQ : Hid (∀ i, i < nm → M (g i) = some (q i)) := hq
    clear hq
    have q1 := neq33n
    have q2 : ((nm : Int) != (nm : Int)) = false := by simp
    simp only [ptr, Option.map_none]
    go_wp2_with fail
    have hR1 := HI.out.1.later HB1.out
    refine mod_58 N LM nm nm n0 sc1 sc2 sp1 sp2 g q M W1 hR1.k1 hR1.k2 hR1.h14 hR1.m hR1.rng hn HQ.out _ _ _ _ _ _ _ _ _ _ _ _ _ _ _ _ _ _ _ _ _ _ _ _ _ _ _ _ _ _ _ _ _ _ _ _ _ _ _ _ _ _ _ _ _ _ _ _ _ _ _ _ _ _ _ _ _ _ _ _ _ _ _ _ _ _ _ _ _ _ _ _ _ _ _ _ _ _ _ _ _ _ _ _ _ _ _ _ _ _ _ _ _ _ _ _ _ _ _ _ _ _ _ _ _ _ _ _ _ _ _ _ _ _ _ _ _ _ _ _ _ _ _ _ _ _ _ _ _ _ _ _ _ _ _ _ _ _ _ _ _ _ _ _ _ _ _ _ _ _ _ _ _ _ _ _ _ _ _ _ _ _ _ _ _ _ _ _ _ _ _ _ _ _ _ _ _ _ _ _ _ _ _ _ _ _ _ _ _ _ _ _ _ _ _ _ _ _ _ _ _ _ _ _ _ _ _ _ _ _ _ _ _ _ _ _ _ _ _ _ _ _ _ _ _ _ _ _ _ _ _ _ _ _ _ _ _ _ _ _ _ _ _ _ _ _ _ _ _ _ _ _ _ _ _ _ _ _ _ _ _ _ _ _ _ _ _ _ _ _ _ _ _ _ _ _ _ _ _ _ _ _ _ _ _ _ _ _ _ _ _ _ _ _ _ _ _ _ _ _ _ _ _ _ _ _ _ _ _ _ _ _ _ _ _ _ _ _ _ _ _ _ _ _ _ _ _ _ _ _ _ _ ?_
    rintro wc _ _ _ _ _ _ _ _ _ _ _ _ _ _ _ _ _ _ _ _ hb2
    have hb3 : Below w.heap.size w wc := (HI.out.2.2.2.1.trans (HB1.out.mono HI.out.2.2.2.1.size)).trans (hb2.mono (Nat.le_trans HI.out.2.2.2.1.size HB1.out.size))
    have HB3 : Hid (Below w.heap.size w wc) := hb3
    clear hb2 hb3 x14 hlen hR1
    go_wp2_with fail
    go_ret
    exact ⟨rfl, HB3.out⟩
  | false =>
    obtain ⟨p, ho, hA⟩ := HI.out.2.2.1 rfl
    subst ho
    have HA : Hid (Acc n nm kk B g q M mh gn p W) := hA
    have hlk : (Instr.lookup 30 (.map (some LM)) (.int .i64 mh) false).run Yba.prog W1 = .ok (.pointer (some ⟨p, 0, none⟩)) W1 := by
      have := (HI.out.1.later HB1.out).m.look (wf64 hm0 (by omega)) (Yba.zeroValue33 _)
      rw [hA.mm] at this
      exact this
    have q1 := eql33s p
    have q2 := neq33 p
    clear hA hlen
    simp only [ptr, Option.map_some]
    go_wp2_with fail
    have hR1 := HI.out.1.later HB1.out
    refine mod_68 N LM n nm n0 sc1 sc2 sp1 sp2 g q M gn W1 hR1.k1 hR1.k2 hR1.h14 hR1.m hR1.rng hn HA.out.hq HA.out.hg HA.out.hd _ _ _ _ _ _ _ _ _ _ _ _ _ _ _ _ _ _ _ _ _ _ _ _ _ _ _ _ _ _ _ _ _ _ _ _ _ _ _ _ _ _ _ _ _ _ _ _ _ _ _ _ _ _ _ _ _ _ _ _ _ _ _ _ _ _ _ _ _ _ _ _ _ _ _ _ _ _ _ _ _ _ _ _ _ _ _ _ _ _ _ _ _ _ _ _ _ _ _ _ _ _ _ _ _ _ _ _ _ _ _ _ _ _ _ _ _ _ _ _ _ _ _ _ _ _ _ _ _ _ _ _ _ _ _ _ _ _ _ _ _ _ _ _ _ _ _ _ _ _ _ _ _ _ _ _ _ _ _ _ _ _ _ _ _ _ _ _ _ _ _ _ _ _ _ _ _ _ _ _ _ _ _ _ _ _ _ _ _ _ _ _ _ _ _ _ _ _ _ _ _ _ _ _ _ _ _ _ _ _ _ _ _ _ _ _ _ _ _ _ _ _ _ _ _ _ _ _ _ _ _ _ _ _ _ _ _ _ _ _ _ _ _ _ _ _ _ _ _ _ _ _ _ _ _ _ _ _ _ _ _ _ _ _ _ _ _ _ _ _ _ _ _ _ _ _ _ _ _ _ _ _ _ _ _ _ _ _ _ _ _ _ _ _ _ _ _ _ _ _ _ _ _ _ _ _ _ _ _ _ _ _ _ _ _ _ _ _ _ _ _ _ _ _ _ _ _ _ _ _ ?_
    rintro W2 _ z41 _ _ _ _ _ _ _ _ _ _ _ _ _ _ _ _ _ _ _ _ _ _ _ _ _ _ _ _ _ _ _ _ _ _ _ _ ⟨rfl, hb2⟩
    have hbW : Below W.heap.size W W2 := bl_then hb2 HB1.out
    have HB2 : Hid (Below W.heap.size W W2) := hbW
    have hR2 := HI.out.1.later hbW
    have hRI : RowI W2 sp1 n g := ⟨hR2.k1⟩
    clear hb2 hbW x14 hlk hR1
    generalize hsz : (n : Int) - (if (fnd g gn n).isSome then (1 : Int) else 0) = szv
    have HZ : Hid ((n : Int) - (if (fnd g gn n).isSome then (1 : Int) else 0) = szv) := hsz
    have hszr : -1 ≤ szv ∧ szv ≤ 1024 := by rw [← hsz]; split <;> omega
    clear hsz
    go_wp2_with fail
    refine (idx_any sp1 n sc1 g mh W2 hRI (by omega)).mono ?_
    rintro e w' ⟨rfl, rfl⟩
    have hlen : ∀ ty, (Builtin.len_ #[30] ty #[.map (some LM)]).run Yba.prog w' = .ok (.int .i64 nm) w' := fun ty => hR2.m.len ty
    have x14 := hR2.h14
    have HSZ : Hid ((nm : Int) = szv + (if (fnd g mh n).isSome then 0 else 1)) := by show (nm : Int) = szv + _; rw [← HZ.out]; exact HA.out.sz
    have HBw : Hid (Below w.heap.size w w') := HI.out.2.2.2.1.trans (HB2.out.mono HI.out.2.2.2.1.size)
    cases hf : fnd g mh n with
    | some j =>
      have hj := (fnd_some hf).1
      have hpj := HA.out.old j hf
      obtain ⟨b2, e, c2⟩ := hR2.k2 (by omega)
      cases e
      have x2 := c2 j hj
      rw [← hpj] at x2
      rw [hf] at HSZ
      have hs2 : (nm : Int) = szv := by rw [HSZ.out]; simp
      have g1 : decide ((0 : Int) ≤ (j : Int)) = true := by simp
      have i1 : (0 : Int) ≤ (j : Int) := by omega
      have i2 : (j : Int) < (n : Int) := by omega
      simp only [idxI]
      rw [hs2] at hlen
      have g3 : (szv == szv) = true := by simp
      clear hf hpj c2 hs2 HSZ hR2 hRI
      go_wp2_with fail
      go_ret
      exact ⟨by simp, HBw.out⟩
    | none =>
      have hNew := (HA.out.new hf).later HB2.out
      obtain ⟨RM, FR, _, d0, dh, d3⟩ := hNew.ex
      have d1 := hNew.c1
      have d2 := hNew.c2
      rw [hf] at HSZ
      have hs2 : (nm : Int) = szv + 1 := by rw [HSZ.out]; simp
      have hw1 : IntKind.i64.wrap (szv + 1) = szv + 1 := by simp [IntKind.wrap, IntKind.signed, IntKind.bits]; omega
      rw [hs2] at hlen
      have hl69 : ∀ ty, (Builtin.len_ #[69] ty #[.map (some RM)]).run Yba.prog w' = .ok (.int .i64 0) w' := fun ty => by
        simp [Builtin.len_, run_underlying Yba.underlying69, MapKept.run_getObj_map dh, goInt, Result.andThen]
      have q54 : ∀ (w : World) (a : Option Addr) (n c : Nat), (binOp .neq 54 (.slice a n c) (.slice none 0 0)).run Yba.prog w = .ok (.bool (!a.isNone)) w := fun w a n c => run_neq_slice_nil_any w 54 4 a n c 0 0 Yba.underlying54
      have g3 : (szv + 1 == szv + 1) = true := by simp
      have g4 : ((kk : Int) != (kk : Int)) = false := by simp
      simp only [idxI]
      clear hf hs2 HSZ hR2 hRI hNew
      have q69 := eql69s RM
      go_wp2_with fail
      go_ret
      exact ⟨by simp, HBw.out⟩
end Go.Proofs.Ybulkclns
