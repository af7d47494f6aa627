import Derived.Test.YbulkclmcLrnB
namespace Go.Proofs.Ybulkclmc
open Go.RowKit

def wst (S : Nat → Lhs) (has : Nat → Bool) (ag v : Int) (ch : Bool) (i : Nat) : Bool := has i && !(ch && (S i).dis ag v)

theorem wst_all (S : Nat → Lhs) (has : Nat → Bool) (ag v : Int) (ch : Bool) (n i : Nat) (hi : i < n) : toF false (wst S has ag v ch) n i = if ch then hasTo S has ag v n i else has i := by
  simp only [toF, hi, if_true, wst, hasTo]
  cases ch <;> simp

abbrev S42b (a b c f : Addr) (x y z q : Value) (T w' : World) : Prop := w'.cell? a = some x ∧ w'.cell? b = some y ∧ w'.cell? c = some z ∧ w'.cell? f = some q ∧ Below T.heap.size T w'
theorem s42b {a b c f : Addr} {x y z q : Value} {T w' : World} (h1 : T.cell? a = some x) (h2 : T.cell? b = some y) (h3 : T.cell? c = some z) (h6 : T.cell? f = some q) (hb : Below T.heap.size T w') : S42b a b c f x y z q T w' :=
  ⟨cell_later hb h1, cell_later hb h2, cell_later hb h3, cell_later hb h6, hb⟩

theorem below_set' {B : Nat} {a w : World} (h : Below B a w) (o : Nat) (u : Value) : Below B a (w.setCell ⟨B, o, none⟩ u) := h.setCell (p := ⟨B, o, none⟩) (Nat.le_refl B) u

theorem ws_set {w : World} {b m k : Nat} {f : Nat → Bool} (h : Cells w b m (fun i => .bool (toF false f k i))) (hk : k < m) {x : Bool} (hx : x = f k) : Cells (w.setCell ⟨b, k, none⟩ (.bool x)) b m (fun i => .bool (toF false f (k + 1) i)) := by
  subst hx
  refine (h.set hk _).congr fun i hi => ?_
  rw [toF_step]
  by_cases e : i = k
  · simp [e, upd]
  · simp [e, upd]

set_option maxRecDepth 1000000 in
set_option maxHeartbeats 4000000 in
theorem lrn_39 (AG V FA ST EX AS OR cO n1 n2 me ag lo c1 c2 : Nat) (p1 p2 : Option Addr) (v t : Int) (va vt vp : Nat → Int) (vk : Nat → Bool) (S : Nat → Lhs) (has : Nat → Bool) (X : Nat → Option Nat) (E : Nat → Lhs) (sk ch : Bool) (w W w1 : World) (h0 : 0 < n1) (h1 : n1 ≤ 1024) (h2 : n2 ≤ 1024) (hag : ag < n1) (hL : Lies AG V FA ST EX AS lo w)
    (HSK : Hid (sk = skipB ag me t (vt ag) (vk ag))) (HCH : Hid (ch = chB sk (vk ag) (va ag) v))
    (hI : St34 AG V FA ST EX AS n1 n2 me lo p1 v t va vt vp vk S has X E w W) (hO : Cells W OR n1 (exOf X)) (hlO : lo ≤ OR) (hb1 : Below W.heap.size W w1) (hC1 : Cells w1 W.heap.size n2 (fun _ => .bool false))
    (x0 x3 x4 x5 x6 x7 x8 x10 x12 x13 x14 x15 x16 x19 x20 x21 x23 x27 x28 x29 x30 x31 x32 x33 x34 x35 x36 x37 x38 x39 x40 x41 x42 x43 x44 x45 x46 x47 x48 x49 x50 x51 x52 x53 x54 x55 x56 x57 x58 x59 x60 x61 x62 x63 x64 x65 x66 x67 x68 x69 x70 x71 x72 x73 x74 x75 x76 x77 x78 x79 x80 x81 x82 x83 x84 x85 x86 x87 x88 x89 x90 x91 x92 x93 x94 x95 x96 x97 x98 x99 x100 x101 x102 x103 x104 x105 x106 x107 x108 x109 x110 x111 x112 x113 x114 x115 x116 x117 x118 x119 x120 x121 x122 x123 x124 x125 x126 x127 x128 x129 x130 x131 x132 x133 x134 x135 x136 x137 x138 x139 x140 x141 x142 x143 x144 x145 x146 x147 x148 x149 x150 x151 x152 x153 x154 x155 x156 x157 x158 x159 x160 x161 x162 x163 x164 x165 x166 x167 x168 x169 x170 x171 x172 x173 x174 x175 x176 x177 x178 x179 x180 x181 x182 x183 x184 x185 x186 x187 x188 x189 x190 x191 x192 x193 x194 x195 x196 x197 x198 x199 x200 x201 x202 x203 x204 x205 x206 x207 x208 x209 x210 x211 x212 x213 x214 x215 x216 x217 x218 x219 x220 x221 x222 x223 x224 x225 x226 x227 x228 x229 x230 x231 x232 x233 x234 x235 x236 x237 x238 x239 x240 x241 x242 x243 x244 x245 x246 x247 x248 x249 x250 x251 x252 x253 x254 x255 x256 x257 x258 x259 x260 x261 x262 x263 x264 x265 x266 x267 x268 x269 x270 x271 x272 x273 x274 x275 x276 x277 x278 x279 x280 x281 x282 x283 x284 x285 x286 x287 x288 x289 x290 x291 x292 x293 x294 x295 x296 x297 x298 x299 x300 x301 x302 x303 x304 x305 x306 x307 x308 x309 x310 x311 x312 x313 x314 x315 x316 x317 x318 x319 x320 x321 x322 x323 x324 x325 x326 x327 x328 x329 x330 x331 x332 x333 x334 x335 x336 x337 x338 x339 x340 x341 x342 x343 x344 x345 x346 x347 x348 x349 x350 x351 x352 x353 x354 x355 x356 x357 x358 x359 x360 x361 x362 x363 x364 x365 x366 x367 x368 x369 x370 x371 x372 x373 x374 x375 x376 x377 x378 x379 x380 x381 x382 x383 x384 x385 x386 x387 x388 x389 x390 x391 x392 x393 x394 x395 x396 x397 x398 x399 x400 x401 x402 x403 x404 x405 x406 x407 x408 x409 x410 x411 x412 x413 x414 x415 x416 x417 x418 x419 x420 x421 x422 x423 x424 x425 x426 : Value) :
    Code.wp Yba.prog (restOf Yba.f3 39) (bodyPost Yba.prog Yba.f3 (fun e w' => e = .returned (.bool true) ∧ Below w.heap.size w w')) ⟨#[x0, .slice p1 n1 c1, .slice p2 n2 c2, x3, x4, x5, x6, x7, x8, .pointer (some ⟨AS, 0, none⟩), x10, .int .i64 n1, x12, x13, x14, x15, x16, .int .i64 ag, .pointer (some ⟨AG, 0, none⟩), x19, x20, x21, .slice (some ⟨OR, 0, none⟩) n1 cO, x23, .bool sk, .bool ch, .slice (some ⟨W.heap.size, 0, none⟩) n2 n2, x27, x28, x29, x30, x31, x32, x33, x34, x35, x36, x37, x38, x39, x40, x41, x42, x43, x44, x45, x46, x47, x48, x49, x50, x51, x52, x53, x54, x55, x56, x57, x58, x59, x60, x61, x62, x63, x64, x65, x66, x67, x68, x69, x70, x71, x72, x73, x74, x75, x76, x77, x78, x79, x80, x81, x82, x83, x84, x85, x86, x87, x88, x89, x90, x91, x92, x93, x94, x95, x96, x97, x98, x99, x100, x101, x102, x103, x104, x105, x106, x107, x108, x109, x110, x111, x112, x113, x114, x115, x116, x117, x118, x119, x120, x121, x122, x123, x124, x125, x126, x127, x128, x129, x130, x131, x132, x133, x134, x135, x136, x137, x138, x139, x140, x141, x142, x143, x144, x145, x146, x147, x148, x149, x150, x151, x152, x153, x154, x155, x156, x157, x158, x159, x160, x161, x162, x163, x164, x165, x166, x167, x168, x169, x170, x171, x172, x173, x174, x175, x176, x177, x178, x179, x180, x181, x182, x183, x184, x185, x186, x187, x188, x189, x190, x191, x192, x193, x194, x195, x196, x197, x198, x199, x200, x201, x202, x203, x204, x205, x206, x207, x208, x209, x210, x211, x212, x213, x214, x215, x216, x217, x218, x219, x220, x221, x222, x223, x224, x225, x226, x227, x228, x229, x230, x231, x232, x233, x234, x235, x236, x237, x238, x239, x240, x241, x242, x243, x244, x245, x246, x247, x248, x249, x250, x251, x252, x253, x254, x255, x256, x257, x258, x259, x260, x261, x262, x263, x264, x265, x266, x267, x268, x269, x270, x271, x272, x273, x274, x275, x276, x277, x278, x279, x280, x281, x282, x283, x284, x285, x286, x287, x288, x289, x290, x291, x292, x293, x294, x295, x296, x297, x298, x299, x300, x301, x302, x303, x304, x305, x306, x307, x308, x309, x310, x311, x312, x313, x314, x315, x316, x317, x318, x319, x320, x321, x322, x323, x324, x325, x326, x327, x328, x329, x330, x331, x332, x333, x334, x335, x336, x337, x338, x339, x340, x341, x342, x343, x344, x345, x346, x347, x348, x349, x350, x351, x352, x353, x354, x355, x356, x357, x358, x359, x360, x361, x362, x363, x364, x365, x366, x367, x368, x369, x370, x371, x372, x373, x374, x375, x376, x377, x378, x379, x380, x381, x382, x383, x384, x385, x386, x387, x388, x389, x390, x391, x392, x393, x394, x395, x396, x397, x398, x399, x400, x401, x402, x403, x404, x405, x406, x407, x408, x409, x410, x411, x412, x413, x414, x415, x416, x417, x418, x419, x420, x421, x422, x423, x424, x425, x426], []⟩ w1 := by
  obtain ⟨i61, hi61, hz0, hz1, hz2⟩ := info_parts Yba.info61
  have HI : Hid (St34 AG V FA ST EX AS n1 n2 me lo p1 v t va vt vp vk S has X E w W ∧ Cells W OR n1 (exOf X) ∧ lo ≤ OR) := ⟨hI, hO, hlO⟩
  have HL : Hid (Lies AG V FA ST EX AS lo w) := hL
  clear hI hL hO hlO
  conv => arg 2; whnf
  have HC0 : Hid (Cells w1 W.heap.size n2 (fun i => .bool (toF false (wst S has ag v ch) 0 i))) := by rw [toF_zero]; exact hC1
  clear hC1
  go_wp2_with fail
  go_loopw [27] (fun x wr => ∃ k : Nat, k ≤ n2 ∧ x = .int .i64 k ∧ Cells wr W.heap.size n2 (fun i => .bool (toF false (wst S has ag v ch) k i)) ∧ Below W.heap.size W wr) (fun x _ => n2 - (intOf x).toNat)
  case atStart => exact ⟨0, Nat.zero_le _, rfl, HC0.out, hb1⟩
  case round =>
    clear hb1 HC0
    obtain ⟨k, hk, rfl, hC, hbr⟩ := hrel
    have hR := HI.out.1.later hbr
    by_cases hlt : k < n2
    · have a11 := hR.a.a11
      have b0 := hR.st.cell (k * 2) (by omega)
      have b1 := hR.st.cell (k * 2 + 1) (by omega)
      rw [stOf0] at b0
      rw [stOf1] at b1
      have d0 := hC.cell k hlt
      have f0 := hC.free k hlt
      have s1 := hR.as1
      have hSl : ST < W.heap.size := HI.out.1.st.lt
      have hAl : AG < W.heap.size := World.block_lt_of_cell? _ _ HI.out.1.a.a11
      have hASl : AS < W.heap.size := World.block_lt_of_cell? _ _ HI.out.1.as1
      have e1 : ¬ ST = W.heap.size := by omega
      have e2 : ¬ W.heap.size = ST := by omega
      have e3 : ¬ AG = W.heap.size := by omega
      have e4 : ¬ W.heap.size = AG := by omega
      have e5 : ¬ AS = W.heap.size := by omega
      have e6 : ¬ W.heap.size = AS := by omega
      have hSk := hR.sS k hlt
      have HC : Hid (Cells wr W.heap.size n2 (fun i => .bool (toF false (wst S has ag v ch) k i)) ∧ Below W.heap.size W wr) := ⟨hC, hbr⟩
      have hkI : (0 : Int) ≤ (k : Int) := by omega
      have hkN : (k : Int) < (n2 : Int) := by omega
      clear hR hC hbr
      have hsz : W.heap.size ≤ wr.heap.size := HC.out.2.size
      have HW : Hid (wst S has ag v ch k = (has k && !(ch && (S k).dis ag v))) := rfl
      go_upto_region 42 with fail
      generalize hhas : has k = hs at *
      cases hs with
      | false =>
        have hz : false = wst S has ag v ch k := by rw [HW.out]; simp
        have HZ : Hid (Cells (wr.setCell ⟨W.heap.size, k, none⟩ (.bool false)) W.heap.size n2 (fun i => .bool (toF false (wst S has ag v ch) (k + 1) i)) ∧ Below W.heap.size W (wr.setCell ⟨W.heap.size, k, none⟩ (.bool false))) := ⟨ws_set HC.out.1 hlt hz, HC.out.2.setCell (Nat.le_refl _) _⟩
        clear hz HW
        go_region
        go_wp2_with fail
        go_roundw
        case rel => exact ⟨k + 1, by omega, by go_num, HZ.out.1.drew, HZ.out.2.drew⟩
        case measure => simp [intOf]; omega
      | true =>
        cases ch with
        | false =>
          have hz : true = wst S has ag v false k := by rw [HW.out]; simp
          have HZ : Hid (Cells (wr.setCell ⟨W.heap.size, k, none⟩ (.bool true)) W.heap.size n2 (fun i => .bool (toF false (wst S has ag v false) (k + 1) i)) ∧ Below W.heap.size W (wr.setCell ⟨W.heap.size, k, none⟩ (.bool true))) := ⟨ws_set HC.out.1 hlt hz, HC.out.2.setCell (Nat.le_refl _) _⟩
          clear hz HW
          go_region
          go_wp2_with fail
          go_roundw
          case rel => exact ⟨k + 1, by omega, by go_num, HZ.out.1.drew, HZ.out.2.drew⟩
          case measure => simp [intOf]; omega
        | true =>
          generalize hdd : (S k).dis ag v = dd at *
          have hz : (!dd) = wst S has ag v true k := by rw [HW.out]; simp
          have HZ : Hid (∀ wq, Below wr.heap.size wr wq → Cells (wq.setCell ⟨W.heap.size, k, none⟩ (.bool (!dd))) W.heap.size n2 (fun i => .bool (toF false (wst S has ag v true) (k + 1) i)) ∧ Below W.heap.size W (wq.setCell ⟨W.heap.size, k, none⟩ (.bool (!dd)))) := fun wq hq => ⟨ws_set (HC.out.1.later hq) hlt hz, (below_then' hq HC.out.2).setCell (Nat.le_refl _) _⟩
          clear hz HW
          have A0 := HI.out.1.a.a11
          have A1 := HI.out.1.st.cell (k * 2 + 1) (by omega)
          have A2 := HI.out.1.st.cell (k * 2) (by omega)
          have A3 := HI.out.1.as1
          rw [stOf0] at A2
          rw [stOf1, hhas] at A1
          have hbr := HC.out.2
          go_region_held3 (fun w' => S42b ⟨AG, 11, none⟩ ⟨ST, k * 2 + 1, none⟩ ⟨ST, k * 2, none⟩ ⟨AS, 1, none⟩ (.slice (some ⟨ST, 0, none⟩) n2 n2) (.bool true) (S k).val (.int .i64 v) W w') ((refine s42b A0 A1 A2 A3 ?_; repeat (first | refine Below.drew ?_ | refine below_drewN' ?_ _ | refine below_new' ?_ _ | refine below_set' ?_ _ _ | refine below_then' hbq ?_ | exact hbr))) (first | (go_at_call 10; refine (adis_any lo (S k) ag v _ (hSk.later ?_)).mono ?_; (repeat (first | refine Below.drew ?_ | refine below_drewN' ?_ _ | exact Below.refl _ _)); rintro e wq ⟨rfl, hbq⟩; have dq := cell_later hbq d0; have fq := (hbq.frozen (p := ⟨W.heap.size, k, none⟩) (World.block_lt_of_cell? _ _ d0)).trans f0))
          have hq2 : Below wr.heap.size wr wq := below_then' hbq (Below.refl _ _).drew
          have HQ : Hid (Cells (wq.setCell ⟨W.heap.size, k, none⟩ (.bool (!dd))) W.heap.size n2 (fun i => .bool (toF false (wst S has ag v true) (k + 1) i)) ∧ Below W.heap.size W (wq.setCell ⟨W.heap.size, k, none⟩ (.bool (!dd)))) := HZ.out wq hq2
          clear HZ hq2
          go_wp2_with fail
          go_roundw
          case rel => exact ⟨k + 1, by omega, by go_num, HQ.out.1, HQ.out.2⟩
          case measure => simp [intOf]; omega
    · obtain rfl : n2 = k := by omega
      have hWS2 : Cells wr W.heap.size n2 (fun i => .bool (if ch then hasTo S has ag v n2 i else has i)) := hC.congr (fun i hi => by rw [wst_all _ _ _ _ _ _ _ hi])
      have hO := HI.out.2.1.later hbr
      have hlow := HI.out.1.low
      obtain ⟨W2, rfl⟩ : ∃ W2, W2 = wr := ⟨wr, rfl⟩
      have hSt : St43 AG V FA ST EX AS W.heap.size OR n1 n2 me ag lo p1 v t va vt vp vk S has X E ch w W2 := ⟨hR, hWS2, hO, hlow, HI.out.2.2⟩
      clear hC hR hbr hWS2 hO
      go_upto_region 43 with fail
      go_cut [28] from 279 to 280 (fun s28 wx => s28 = .slice (some ⟨W2.heap.size, 0, none⟩) n1 n1 ∧ Cells wx W2.heap.size n1 (exOf (fun _ => none)) ∧ Below W2.heap.size W2 wx)
      case first =>
        go_wp2_with (first | (at_make; refine wpList_make_full _ rfl (.tmp 279) (.tmp 279) 36 rfl W2.heap.size 61 i61 (.pointer none) 1 Yba.underlying36 hi61 hz0 hz1 .i64 .i64 _ _ n1 rfl rfl rfl rfl (by rw [hz2]; omega) (by unfold maxLen; omega) (Nat.le_refl _) ?_; intro w2 hown1 hgrow1; have hb2 := (Below.refl W2.heap.size W2).grown hgrow1 (Nat.le_refl _) (by simp)) | fail)
        go_meet
        refine ⟨rfl, ?_, hb2⟩
        have hC := Cells.made hown1
        rw [Nat.mul_one] at hC
        refine hC.congr fun i hi => ?_
        rw [made_get (by omega)]; simp [exOf, ptr, Value.cells, Nat.mod_one]
      case rest =>
      obtain ⟨rfl, hC2, hb2⟩ := hcut
      apply_assumption
      exact lrn_44 AG V FA ST EX AS W.heap.size OR cO n1 n2 me ag lo c1 c2 p1 p2 v t va vt vp vk S has X E sk ch w W2 wc h0 h1 h2 hag HL.out HSK HCH hSt hb2 hC2 _ _ _ _ _ _ _ _ _ _ _ _ _ _ _ _ _ _ _ _ _ _ _ _ _ _ _ _ _ _ _ _ _ _ _ _ _ _ _ _ _ _ _ _ _ _ _ _ _ _ _ _ _ _ _ _ _ _ _ _ _ _ _ _ _ _ _ _ _ _ _ _ _ _ _ _ _ _ _ _ _ _ _ _ _ _ _ _ _ _ _ _ _ _ _ _ _ _ _ _ _ _ _ _ _ _ _ _ _ _ _ _ _ _ _ _ _ _ _ _ _ _ _ _ _ _ _ _ _ _ _ _ _ _ _ _ _ _ _ _ _ _ _ _ _ _ _ _ _ _ _ _ _ _ _ _ _ _ _ _ _ _ _ _ _ _ _ _ _ _ _ _ _ _ _ _ _ _ _ _ _ _ _ _ _ _ _ _ _ _ _ _ _ _ _ _ _ _ _ _ _ _ _ _ _ _ _ _ _ _ _ _ _ _ _ _ _ _ _ _ _ _ _ _ _ _ _ _ _ _ _ _ _ _ _ _ _ _ _ _ _ _ _ _ _ _ _ _ _ _ _ _ _ _ _ _ _ _ _ _ _ _ _ _ _ _ _ _ _ _ _ _ _ _ _ _ _ _ _ _ _ _ _ _ _ _ _ _ _ _ _ _ _ _ _ _ _ _ _ _ _ _ _ _ _ _ _ _ _ _ _ _ _ _ _ _ _ _ _ _ _ _ _ _ _ _ _ _ _ _ _ _ _ _ _ _ _ _ _ _ _ _ _ _ _ _ _ _ _ _ _ _ _ _ _ _ _ _ _ _ _ _ _ _ _ _ _ _ _ _ _ _ _ _ _ _ _ _ _ _ _ _ _ _ _ _ _ _ _ _ _ _ _ _ _ _ _ _ _ _ _ _ _ _ _ _ _ _ _ _ _ _ _ _ _ _
end Go.Proofs.Ybulkclmc
