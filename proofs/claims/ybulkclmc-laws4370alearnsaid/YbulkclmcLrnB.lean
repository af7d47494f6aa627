import Derived.Test.YbulkclmcLrnC
namespace Go.Proofs.Ybulkclmc
open Go.RowKit

theorem Yba.info4' : (Yba.prog.info? 4).map (fun i => (i.zero, i.size, i.bytes)) = some (some (.bool false), 1, 1) := by kernel_rfl

/-- what stands ahead of the clone -/
structure St34 (AG V FA ST EX AS n1 n2 me lo : Nat) (p1 : Option Addr) (v t : Int) (va vt vp : Nat → Int) (vk : Nat → Bool) (S : Nat → Lhs) (has : Nat → Bool) (X : Nat → Option Nat) (E : Nat → Lhs) (w W : World) : Prop where
  a : LrnA AG V FA ST EX n1 n2 me W
  view : Cells W V (n1 * 4) (vwOf va vt vp vk)
  st : Cells W ST (n2 * 2) (stOf S has)
  ex : Cells W EX n1 (exOf X)
  sS : ∀ i, i < n2 → LhsOk lo W (S i)
  sE : ∀ j, j < n1 → ExOk lo W (X j) (E j)
  as1 : W.cell? ⟨AS, 1, none⟩ = some (.int .i64 v)
  as2 : W.cell? ⟨AS, 2, none⟩ = some (.int .i64 t)
  inp : ∃ b o, p1 = some ⟨b, o, none⟩ ∧ b < w.heap.size ∧ ∀ i, i < n1 → W.cell? ⟨b, o + i * 4, none⟩ = some (.int .i64 (va i)) ∧ W.cell? ⟨b, o + i * 4 + 1, none⟩ = some (.int .i64 (vt i)) ∧ W.cell? ⟨b, o + i * 4 + 2, none⟩ = some (.int .i64 (vp i)) ∧ W.cell? ⟨b, o + i * 4 + 3, none⟩ = some (.bool (vk i))
  low : lo ≤ W.heap.size
  bel : Below w.heap.size w W

theorem St34.later {AG V FA ST EX AS n1 n2 me lo : Nat} {p1 : Option Addr} {v t : Int} {va vt vp : Nat → Int} {vk : Nat → Bool} {S : Nat → Lhs} {has : Nat → Bool} {X : Nat → Option Nat} {E : Nat → Lhs} {w W W' : World}
    (h : St34 AG V FA ST EX AS n1 n2 me lo p1 v t va vt vp vk S has X E w W) (hb : Below W.heap.size W W') : St34 AG V FA ST EX AS n1 n2 me lo p1 v t va vt vp vk S has X E w W' := by
  have hk : Keeps (fun _ => False) W W' := Keeps.of_below hb
  refine ⟨h.a.keeps hk (fun x => x) (fun x => x), h.view.later hb, h.st.later hb, h.ex.later hb, fun i hi => (h.sS i hi).later hb, fun j hj => (h.sE j hj).keeps hk (fun _ _ x => x), cell_later hb h.as1, cell_later hb h.as2, ?_, Nat.le_trans h.low hb.size, h.bel.trans (hb.mono h.bel.size)⟩
  obtain ⟨b, o, e, hbl, hc⟩ := h.inp
  exact ⟨b, o, e, hbl, fun i hi => by obtain ⟨c0, c1, c2, c3⟩ := hc i hi; exact ⟨cell_later hb c0, cell_later hb c1, cell_later hb c2, cell_later hb c3⟩⟩

theorem St34.sets {AG V FA ST EX AS n1 n2 me lo B : Nat} {p1 : Option Addr} {v t : Int} {va vt vp : Nat → Int} {vk : Nat → Bool} {S : Nat → Lhs} {has : Nat → Bool} {X : Nat → Option Nat} {E : Nat → Lhs} {w W0 W : World}
    (h : St34 AG V FA ST EX AS n1 n2 me lo p1 v t va vt vp vk S has X E w W0) (hk : Keeps (fun b => b = B) W0 W) (hB : W0.heap.size ≤ B) : St34 AG V FA ST EX AS n1 n2 me lo p1 v t va vt vp vk S has X E w W :=
  h.later (hk.below (Nat.le_refl _) (fun k e => by subst e; exact hB))

/-- how the blocks lie -/
structure Lies (AG V FA ST EX AS lo : Nat) (w : World) : Prop where
  hVS : ¬ V = ST
  hVE : ¬ V = EX
  hSE : ¬ ST = EX
  hVA : ¬ V = AG
  hVF : ¬ V = FA
  hSA : ¬ ST = AG
  hEA : ¬ EX = AG
  hlV : V < lo
  hlS : ST < lo
  hlE : EX < lo
  sV : w.heap.size ≤ V
  sS : w.heap.size ≤ ST
  sE : w.heap.size ≤ EX
  nV : ¬ AS = V
  nS : ¬ AS = ST
  nE : ¬ AS = EX


structure St43 (AG V FA ST EX AS WS OR n1 n2 me ag lo : Nat) (p1 : Option Addr) (v t : Int) (va vt vp : Nat → Int) (vk : Nat → Bool) (S : Nat → Lhs) (has : Nat → Bool) (X : Nat → Option Nat) (E : Nat → Lhs) (ch : Bool) (w W : World) : Prop where
  base : St34 AG V FA ST EX AS n1 n2 me lo p1 v t va vt vp vk S has X E w W
  ws : Cells W WS n2 (fun i => .bool (if ch then hasTo S has ag v n2 i else has i))
  orr : Cells W OR n1 (exOf X)
  loW : lo ≤ WS
  loO : lo ≤ OR

theorem St43.later {AG V FA ST EX AS WS OR n1 n2 me ag lo : Nat} {p1 : Option Addr} {v t : Int} {va vt vp : Nat → Int} {vk : Nat → Bool} {S : Nat → Lhs} {has : Nat → Bool} {X : Nat → Option Nat} {E : Nat → Lhs} {ch : Bool} {w W W' : World}
    (h : St43 AG V FA ST EX AS WS OR n1 n2 me ag lo p1 v t va vt vp vk S has X E ch w W) (hb : Below W.heap.size W W') : St43 AG V FA ST EX AS WS OR n1 n2 me ag lo p1 v t va vt vp vk S has X E ch w W' :=
  ⟨h.base.later hb, h.ws.later hb, h.orr.later hb, h.loW, h.loO⟩

def wex (X : Nat → Option Nat) (E : Nat → Lhs) (ag v : Int) (ch : Bool) (j : Nat) : Option Nat := if ch = true ∧ (E j).dis ag v = true then none else X j

theorem wex_all (X : Nat → Option Nat) (E : Nat → Lhs) (ag v : Int) (ch : Bool) (n i : Nat) (hi : i < n) : toF none (wex X E ag v ch) n i = if ch then exTo X E ag v n i else X i := by
  simp only [toF, hi, if_true, wex, exTo, true_and]
  cases ch <;> simp

theorem below_then' {W X w1 : World} (h : Below X.heap.size X w1) (k : Below W.heap.size W X) : Below W.heap.size W w1 := k.trans (h.mono k.size)
theorem below_new' {W X : World} (k : Below W.heap.size W X) (o : Obj) : Below W.heap.size W (X.alloc o) := k.alloc k.size o
abbrev S48 (a b c : Addr) (x y z : Value) (T w' : World) : Prop := w'.cell? a = some x ∧ w'.cell? b = some y ∧ w'.cell? c = some z ∧ Below T.heap.size T w'
theorem s48 {a b c : Addr} {x y z : Value} {T w' : World} (h1 : T.cell? a = some x) (h2 : T.cell? b = some y) (h3 : T.cell? c = some z) (hb : Below T.heap.size T w') : S48 a b c x y z T w' :=
  ⟨cell_later hb h1, cell_later hb h2, cell_later hb h3, hb⟩

theorem neq61s (b : Nat) (w : World) : (binOp .neq 61 (.pointer (some ⟨b, 0, none⟩)) (.pointer none)).run Yba.prog w = .ok (.bool true) w := by
  have h : ∀ d : Nat, (Op.equalIn (d + 1) 61 (.pointer (some ⟨b, 0, none⟩)) (.pointer none)).run Yba.prog w = .ok false w := fun d => by
    simp [Op.equalIn, run_underlying Yba.underlying61]
  simp only [binOp]
  simp [Op.equal, Op.maxDepth, h 9999]
theorem neq61n (w : World) : (binOp .neq 61 (.pointer none) (.pointer none)).run Yba.prog w = .ok (.bool false) w := neq61 none w

set_option maxRecDepth 1000000 in
set_option maxHeartbeats 4000000 in
theorem lrn_44 (AG V FA ST EX AS WS OR cO n1 n2 me ag lo c1 c2 : Nat) (p1 p2 : Option Addr) (v t : Int) (va vt vp : Nat → Int) (vk : Nat → Bool) (S : Nat → Lhs) (has : Nat → Bool) (X : Nat → Option Nat) (E : Nat → Lhs) (sk ch : Bool) (w W w1 : World) (h0 : 0 < n1) (h1 : n1 ≤ 1024) (h2 : n2 ≤ 1024) (hag : ag < n1) (hL : Lies AG V FA ST EX AS lo w)
    (HSK : Hid (sk = skipB ag me t (vt ag) (vk ag))) (HCH : Hid (ch = chB sk (vk ag) (va ag) v))
    (hI : St43 AG V FA ST EX AS WS OR n1 n2 me ag lo p1 v t va vt vp vk S has X E ch w W) (hb1 : Below W.heap.size W w1) (hC1 : Cells w1 W.heap.size n1 (exOf (fun _ => none)))
    (x0 x3 x4 x5 x6 x7 x8 x10 x12 x13 x14 x15 x16 x19 x20 x21 x23 x27 x29 x30 x31 x32 x33 x34 x35 x36 x37 x38 x39 x40 x41 x42 x43 x44 x45 x46 x47 x48 x49 x50 x51 x52 x53 x54 x55 x56 x57 x58 x59 x60 x61 x62 x63 x64 x65 x66 x67 x68 x69 x70 x71 x72 x73 x74 x75 x76 x77 x78 x79 x80 x81 x82 x83 x84 x85 x86 x87 x88 x89 x90 x91 x92 x93 x94 x95 x96 x97 x98 x99 x100 x101 x102 x103 x104 x105 x106 x107 x108 x109 x110 x111 x112 x113 x114 x115 x116 x117 x118 x119 x120 x121 x122 x123 x124 x125 x126 x127 x128 x129 x130 x131 x132 x133 x134 x135 x136 x137 x138 x139 x140 x141 x142 x143 x144 x145 x146 x147 x148 x149 x150 x151 x152 x153 x154 x155 x156 x157 x158 x159 x160 x161 x162 x163 x164 x165 x166 x167 x168 x169 x170 x171 x172 x173 x174 x175 x176 x177 x178 x179 x180 x181 x182 x183 x184 x185 x186 x187 x188 x189 x190 x191 x192 x193 x194 x195 x196 x197 x198 x199 x200 x201 x202 x203 x204 x205 x206 x207 x208 x209 x210 x211 x212 x213 x214 x215 x216 x217 x218 x219 x220 x221 x222 x223 x224 x225 x226 x227 x228 x229 x230 x231 x232 x233 x234 x235 x236 x237 x238 x239 x240 x241 x242 x243 x244 x245 x246 x247 x248 x249 x250 x251 x252 x253 x254 x255 x256 x257 x258 x259 x260 x261 x262 x263 x264 x265 x266 x267 x268 x269 x270 x271 x272 x273 x274 x275 x276 x277 x278 x279 x280 x281 x282 x283 x284 x285 x286 x287 x288 x289 x290 x291 x292 x293 x294 x295 x296 x297 x298 x299 x300 x301 x302 x303 x304 x305 x306 x307 x308 x309 x310 x311 x312 x313 x314 x315 x316 x317 x318 x319 x320 x321 x322 x323 x324 x325 x326 x327 x328 x329 x330 x331 x332 x333 x334 x335 x336 x337 x338 x339 x340 x341 x342 x343 x344 x345 x346 x347 x348 x349 x350 x351 x352 x353 x354 x355 x356 x357 x358 x359 x360 x361 x362 x363 x364 x365 x366 x367 x368 x369 x370 x371 x372 x373 x374 x375 x376 x377 x378 x379 x380 x381 x382 x383 x384 x385 x386 x387 x388 x389 x390 x391 x392 x393 x394 x395 x396 x397 x398 x399 x400 x401 x402 x403 x404 x405 x406 x407 x408 x409 x410 x411 x412 x413 x414 x415 x416 x417 x418 x419 x420 x421 x422 x423 x424 x425 x426 : Value) :
    Code.wp Yba.prog (restOf Yba.f3 44) (bodyPost Yba.prog Yba.f3 (fun e w' => e = .returned (.bool true) ∧ Below w.heap.size w w')) ⟨#[x0, .slice p1 n1 c1, .slice p2 n2 c2, x3, x4, x5, x6, x7, x8, .pointer (some ⟨AS, 0, none⟩), x10, .int .i64 n1, x12, x13, x14, x15, x16, .int .i64 ag, .pointer (some ⟨AG, 0, none⟩), x19, x20, x21, .slice (some ⟨OR, 0, none⟩) n1 cO, x23, .bool sk, .bool ch, .slice (some ⟨WS, 0, none⟩) n2 n2, x27, .slice (some ⟨W.heap.size, 0, none⟩) n1 n1, x29, x30, x31, x32, x33, x34, x35, x36, x37, x38, x39, x40, x41, x42, x43, x44, x45, x46, x47, x48, x49, x50, x51, x52, x53, x54, x55, x56, x57, x58, x59, x60, x61, x62, x63, x64, x65, x66, x67, x68, x69, x70, x71, x72, x73, x74, x75, x76, x77, x78, x79, x80, x81, x82, x83, x84, x85, x86, x87, x88, x89, x90, x91, x92, x93, x94, x95, x96, x97, x98, x99, x100, x101, x102, x103, x104, x105, x106, x107, x108, x109, x110, x111, x112, x113, x114, x115, x116, x117, x118, x119, x120, x121, x122, x123, x124, x125, x126, x127, x128, x129, x130, x131, x132, x133, x134, x135, x136, x137, x138, x139, x140, x141, x142, x143, x144, x145, x146, x147, x148, x149, x150, x151, x152, x153, x154, x155, x156, x157, x158, x159, x160, x161, x162, x163, x164, x165, x166, x167, x168, x169, x170, x171, x172, x173, x174, x175, x176, x177, x178, x179, x180, x181, x182, x183, x184, x185, x186, x187, x188, x189, x190, x191, x192, x193, x194, x195, x196, x197, x198, x199, x200, x201, x202, x203, x204, x205, x206, x207, x208, x209, x210, x211, x212, x213, x214, x215, x216, x217, x218, x219, x220, x221, x222, x223, x224, x225, x226, x227, x228, x229, x230, x231, x232, x233, x234, x235, x236, x237, x238, x239, x240, x241, x242, x243, x244, x245, x246, x247, x248, x249, x250, x251, x252, x253, x254, x255, x256, x257, x258, x259, x260, x261, x262, x263, x264, x265, x266, x267, x268, x269, x270, x271, x272, x273, x274, x275, x276, x277, x278, x279, x280, x281, x282, x283, x284, x285, x286, x287, x288, x289, x290, x291, x292, x293, x294, x295, x296, x297, x298, x299, x300, x301, x302, x303, x304, x305, x306, x307, x308, x309, x310, x311, x312, x313, x314, x315, x316, x317, x318, x319, x320, x321, x322, x323, x324, x325, x326, x327, x328, x329, x330, x331, x332, x333, x334, x335, x336, x337, x338, x339, x340, x341, x342, x343, x344, x345, x346, x347, x348, x349, x350, x351, x352, x353, x354, x355, x356, x357, x358, x359, x360, x361, x362, x363, x364, x365, x366, x367, x368, x369, x370, x371, x372, x373, x374, x375, x376, x377, x378, x379, x380, x381, x382, x383, x384, x385, x386, x387, x388, x389, x390, x391, x392, x393, x394, x395, x396, x397, x398, x399, x400, x401, x402, x403, x404, x405, x406, x407, x408, x409, x410, x411, x412, x413, x414, x415, x416, x417, x418, x419, x420, x421, x422, x423, x424, x425, x426], []⟩ w1 := by
  have HI : Hid (St43 AG V FA ST EX AS WS OR n1 n2 me ag lo p1 v t va vt vp vk S has X E ch w W) := hI
  have HL : Hid (Lies AG V FA ST EX AS lo w) := hL
  clear hI hL
  conv => arg 2; whnf
  have HC0 : Hid (Cells w1 W.heap.size n1 (exOf (toF none (wex X E ag v ch) 0))) := by rw [toF_zero]; exact hC1
  clear hC1
  go_wp2_with fail
  go_loopw [29] (fun x wr => ∃ k : Nat, k ≤ n1 ∧ x = .int .i64 k ∧ Cells wr W.heap.size n1 (exOf (toF none (wex X E ag v ch) k)) ∧ Below W.heap.size W wr) (fun x _ => n1 - (intOf x).toNat)
  case atStart => exact ⟨0, Nat.zero_le _, rfl, HC0.out, hb1⟩
  case round =>
    clear hb1 HC0
    obtain ⟨k, hk, rfl, hC, hbr⟩ := hrel
    have hR := HI.out.later hbr
    by_cases hlt : k < n1
    · have c0 := hR.orr.cell k hlt
      simp only [exOf] at c0
      have d0 := hC.cell k hlt
      have f0 := hC.free k hlt
      have hOl : OR < W.heap.size := HI.out.orr.lt
      have hne : ¬ OR = W.heap.size := by omega
      have hne' : ¬ W.heap.size = OR := by omega
      have hXk := hR.base.sE k hlt
      have hs1 := hR.base.as1
      have hASl : AS < W.heap.size := World.block_lt_of_cell? _ _ HI.out.base.as1
      have Hstep : Hid (exOf (toF none (wex X E ag v ch) (k + 1)) = exOf (upd (toF none (wex X E ag v ch) k) k (wex X E ag v ch k))) := congrArg exOf (toF_step _ _ _)
      have HC : Hid (Cells wr W.heap.size n1 (exOf (toF none (wex X E ag v ch) k)) ∧ Below W.heap.size W wr) := ⟨hC, hbr⟩
      have hkI : (0 : Int) ≤ (k : Int) := by omega
      have hkN : (k : Int) < (n1 : Int) := by omega
      clear hR hC hbr
      cases hx : X k with
      | none =>
        have hw : wex X E ag v ch k = none := by simp [wex, hx]
        rw [hw] at Hstep
        rw [hx] at c0
        simp only [ptr, Option.map_none] at c0
        go_upto_region 48 with fail
        have HS : Hid (Cells (wr.setCell ⟨W.heap.size, k, none⟩ (ptr none)) W.heap.size n1 (exOf (toF none (wex X E ag v ch) (k + 1))) ∧ Below W.heap.size W (wr.setCell ⟨W.heap.size, k, none⟩ (ptr none))) := by
          refine ⟨?_, HC.out.2.setCell (Nat.le_refl _) _⟩
          rw [Hstep.out]
          exact ex_set HC.out.1 hlt none
        have hq := neq61n
        cases ch with
        | false =>
          go_quiet (fail)
          go_wp2_with fail
          go_roundw
          case rel => exact ⟨k + 1, by omega, by go_num, HS.out.1.drewN _, below_drewN' HS.out.2 _⟩
          case measure => simp [intOf]; omega
        | true =>
          go_quiet (fail)
          go_wp2_with fail
          go_roundw
          case rel => exact ⟨k + 1, by omega, by go_num, HS.out.1.drewN _, below_drewN' HS.out.2 _⟩
          case measure => simp [intOf]; omega
      | some b =>
        obtain ⟨hlb, e0, hE⟩ := hXk.ok b hx
        rw [hx] at c0
        simp only [ptr, Option.map_some] at c0
        go_upto_region 48 with fail
        have hST : Below W.heap.size W (wr.setCell ⟨W.heap.size, k, none⟩ (.pointer (some ⟨b, 0, none⟩))) := HC.out.2.setCell (Nat.le_refl _) _
        have hCT : Cells (wr.setCell ⟨W.heap.size, k, none⟩ (.pointer (some ⟨b, 0, none⟩))) W.heap.size n1 (exOf (upd (toF none (wex X E ag v ch) k) k (some b))) := ex_set HC.out.1 hlt (some b)
        have hX2 := HI.out.later hST
        obtain ⟨_, e0', hE'⟩ := (hX2.base.sE k hlt).ok b hx
        have c0' := hX2.orr.cell k hlt
        simp only [exOf, hx, ptr, Option.map_some] at c0'
        have s1' := hX2.base.as1
        have hW1 : Hid (wex X E ag v ch k = if ch = true ∧ (E k).dis ag v = true then none else some b) := by rw [← hx]; rfl
        have HT : Hid (Below W.heap.size W (wr.setCell ⟨W.heap.size, k, none⟩ (.pointer (some ⟨b, 0, none⟩))) ∧ Cells (wr.setCell ⟨W.heap.size, k, none⟩ (.pointer (some ⟨b, 0, none⟩))) W.heap.size n1 (exOf (upd (toF none (wex X E ag v ch) k) k (some b)))) := ⟨hST, hCT⟩
        clear hX2 c0 e0 hE hs1 hXk HC hST hCT d0 f0
        generalize wr.setCell ⟨W.heap.size, k, none⟩ (.pointer (some ⟨b, 0, none⟩)) = T at *
        have hq : ∀ w, (binOp .neq 61 (.pointer (some ⟨b, 0, none⟩)) (.pointer none)).run Yba.prog w = .ok (.bool true) w := neq61s b
        cases ch with
        | false =>
          go_quiet (fail)
          go_wp2_with fail
          go_roundw
          case rel =>
            refine ⟨k + 1, by omega, by go_num, ?_, below_drewN' HT.out.1 _⟩
            rw [Hstep.out, hW1.out]
            exact HT.out.2.drewN _
          case measure => simp [intOf]; omega
        | true =>
          generalize hdd : (E k).dis ag v = dd at *
          go_cut [313] (fun s wx => s = .bool dd ∧ Below T.heap.size T wx)
          case first =>
            go_region_held3 (fun w' => S48 ⟨OR, k, none⟩ ⟨b, 0, none⟩ ⟨AS, 1, none⟩ (.pointer (some ⟨b, 0, none⟩)) (E k).val (.int .i64 v) T w') ((refine s48 c0' e0' s1' ?_; repeat (first | refine Below.drew ?_ | refine below_drewN' ?_ _ | refine below_new' ?_ _ | refine below_then' hbq ?_ | exact Below.refl _ _))) (first | (go_at_call 10; refine (adis_any lo (E k) ag v _ (hE'.later ?_)).mono ?_; (repeat (first | refine Below.drew ?_ | refine below_drewN' ?_ _ | exact Below.refl _ _)); rintro e wq ⟨rfl, hbq⟩))
            obtain ⟨_, _, _, hbb⟩ : S48 ⟨OR, k, none⟩ ⟨b, 0, none⟩ ⟨AS, 1, none⟩ (.pointer (some ⟨b, 0, none⟩)) (E k).val (.int .i64 v) T _ := by assumption
            go_wp2_with fail
            go_meet
            exact ⟨rfl, hbb⟩
          case rest =>
          obtain ⟨rfl, hbc⟩ := hcut
          have hCc := HT.out.2.later hbc
          have hBc := below_then' hbc HT.out.1
          have d0 := hCc.cell k hlt
          have f0 := hCc.free k hlt
          have HQ : Hid (Below W.heap.size W wc ∧ Cells wc W.heap.size n1 (exOf (upd (toF none (wex X E ag v true) k) k (some b)))) := ⟨hBc, hCc⟩
          clear hCc hBc hbc HT c0' e0' s1' hE'
          cases dd with
          | false =>
            go_wp2_with fail
            go_roundw
            case rel =>
              refine ⟨k + 1, by omega, by go_num, ?_, HQ.out.1⟩
              rw [Hstep.out, hW1.out]
              exact HQ.out.2
            case measure => simp [intOf]; omega
          | true =>
            go_wp2_with fail
            go_roundw
            case rel =>
              refine ⟨k + 1, by omega, by go_num, ?_, HQ.out.1.setCell (Nat.le_refl _) _⟩
              rw [Hstep.out, hW1.out]
              refine (ex_set HQ.out.2 hlt none).congr fun i hi => ?_
              by_cases e : i = k
              · simp [exOf, upd, e]
              · simp [exOf, upd, e]
            case measure => simp [intOf]; omega
    · obtain rfl : n1 = k := by omega
      obtain ⟨W2, rfl⟩ : ∃ W2, W2 = wr := ⟨wr, rfl⟩
      have hWE2 : Cells W2 W.heap.size n1 (exOf (fun i => if ch then exTo X E ag v n1 i else X i)) := hC.congr (fun i hi => by simp only [exOf]; rw [wex_all _ _ _ _ _ _ _ hi])
      have s1 := hR.base.as1
      have s2 := hR.base.as2
      have HR : Hid (St43 AG V FA ST EX AS WS OR n1 n2 me ag lo p1 v t va vt vp vk S has X E ch w W2) := hR
      have hsz := hbr.size
      clear hC hbr hR
      go_upto_region 50 with fail
      go_cut [324] from 317 to 324 (fun _ wx => LrnOut V ST EX n1 n2 ag v t va vt vp vk S has X E (skipB ag me t (vt ag) (vk ag)) (chB (skipB ag me t (vt ag) (vk ag)) (vk ag) (va ag) v) W2 wx)
      case first =>
        go_wp2_with fail
        refine (learn_any AG V FA ST EX n1 n2 me ag lo va vt vp vk S has X E v t W2 hag h1 h2 HR.out.base.a HR.out.base.view HR.out.base.st HR.out.base.ex HL.out.hVS HL.out.hVE HL.out.hSE HL.out.hVA HL.out.hVF HL.out.hSA HL.out.hEA HL.out.hlV HL.out.hlS HL.out.hlE HR.out.base.low HR.out.base.sS HR.out.base.sE).mono ?_
        rintro e W3 ⟨⟨x, rfl⟩, hO⟩
        go_wp2_with fail
        go_meet
        exact hO
      case rest =>
      obtain ⟨W3, rfl⟩ : ∃ W3, W3 = wc := ⟨wc, rfl⟩
      have hO := hcut
      clear hcut
      rw [← HSK.out, ← HCH.out] at hO
      have hsc : sk = true → ch = false := fun h => by rw [HCH.out, h]; simp [chB]
      have hwl := HI.out.base.low
      have hL := HL.out
      have hwsz := HI.out.base.bel.size
      obtain ⟨b, o, e, hbl, hc⟩ := HR.out.base.inp
      cases e
      have nb : ∀ p : Nat, p < w.heap.size → ¬ (p = V ∨ p = ST ∨ p = EX) := fun p hp h => by have := hL.sV; have := hL.sS; have := hL.sE; omega
      have nl : ∀ p : Nat, lo ≤ p → ¬ (p = V ∨ p = ST ∨ p = EX) := fun p hp h => by have := hL.hlV; have := hL.hlS; have := hL.hlE; omega
      have nA : ¬ (AG = V ∨ AG = ST ∨ AG = EX) := fun h => by have := hL.hVA; have := hL.hSA; have := hL.hEA; omega
      have nS : ¬ (AS = V ∨ AS = ST ∨ AS = EX) := fun h => by have := hL.nV; have := hL.nS; have := hL.nE; omega
      have hSt : St51 AG V ST EX WS W.heap.size AS n1 n2 ag (some ⟨b, o, none⟩) v t va vt vp vk sk ch S (fun i => if ch then hasTo S has ag v n2 i else has i) (fun i => if ch then exTo X E ag v n1 i else X i) w W3 :=
        ⟨hO.kp.cell nA HR.out.base.a.a10, hO.kp.cell nA HR.out.base.a.a11, hO.kp.cell nA HR.out.base.a.a14, hO.view, hO.st, hO.ex, hO.kp.cells (nl _ HR.out.loW) HR.out.ws, hO.kp.cells (nl _ hwl) hWE2, hO.kp.cell nS s1, hO.kp.cell nS s2, ⟨b, o, rfl, fun i hi => by obtain ⟨d0, d1, d2, d3⟩ := hc i hi; exact ⟨hO.kp.cell (nb b hbl) d0, hO.kp.cell (nb b hbl) d1, hO.kp.cell (nb b hbl) d2, hO.kp.cell (nb b hbl) d3⟩⟩, hsc, HR.out.base.bel.trans (hO.kp.below (Nat.le_trans hwsz hsz) (fun k h => by have := hL.sV; have := hL.sS; have := hL.sE; omega))⟩
      clear HR hWE2 s1 s2 hO hc HI HL HSK HCH
      apply_assumption
      exact lrn_51 AG V ST EX WS W.heap.size AS n1 n2 ag c1 c2 (some ⟨b, o, none⟩) p2 v t va vt vp vk sk ch S _ _ w W3 h1 h2 hag hSt _ _ _ _ _ _ _ _ _ _ _ _ _ _ _ _ _ _ _ _ _ _ _ _ _ _ _ _ _ _ _ _ _ _ _ _ _ _ _ _ _ _ _ _ _ _ _ _ _ _ _ _ _ _ _ _ _ _ _ _ _ _ _ _ _ _ _ _ _ _ _ _ _ _ _ _ _ _ _ _ _ _ _ _ _ _ _ _ _ _ _ _ _ _ _ _ _ _ _ _ _ _ _ _ _ _ _ _ _ _ _ _ _ _ _ _ _ _ _ _ _ _ _ _ _ _ _ _ _ _ _ _ _ _ _ _ _ _ _ _ _ _ _ _ _ _ _ _ _ _ _ _ _ _ _ _ _ _ _ _ _ _ _ _ _ _ _ _ _ _ _ _ _ _ _ _ _ _ _ _ _ _ _ _ _ _ _ _ _ _ _ _ _ _ _ _ _ _ _ _ _ _ _ _ _ _ _ _ _ _ _ _ _ _ _ _ _ _ _ _ _ _ _ _ _ _ _ _ _ _ _ _ _ _ _ _ _ _ _ _ _ _ _ _ _ _ _ _ _ _ _ _ _ _ _ _ _ _ _ _ _ _ _ _ _ _ _ _ _ _ _ _ _ _ _ _ _ _ _ _ _ _ _ _ _ _ _ _ _ _ _ _ _ _ _ _ _ _ _ _ _ _ _ _ _ _ _ _ _ _ _ _ _ _ _ _ _ _ _ _ _ _ _ _ _ _ _ _ _ _ _ _ _ _ _ _ _ _ _ _ _ _ _ _ _ _ _ _ _ _ _ _ _ _ _ _ _ _ _ _ _ _ _ _ _ _ _ _ _ _ _ _ _ _ _ _ _ _ _ _ _ _ _ _ _ _ _ _ _ _ _ _ _ _ _ _ _ _ _ _ _ _ _ _ _ _ _ _ _ _ _ _ _ _ _ _ _
end Go.Proofs.Ybulkclmc
