import Derived.Test.YbulkclmcLrn6
import Derived.LaidEqlPtr
namespace Go.Proofs.Ybulkclmc
open Go.RowKit

def leafIs (r : Nat) : Code → Bool
  | .region k _ _ => k == r
  | .seq a _ => leafIs r a
  | .block _ c => leafIs r c
  | .loop c => leafIs r c
  | _ => false
def dropTo (r : Nat) : Code → Option Code
  | .seq a b => if leafIs r b then some b else match dropTo r b with
    | some c => some c
    | none => dropTo r a
  | .block _ c => dropTo r c
  | .scope c => dropTo r c
  | _ => none
/-- the law's code from region r on -/
def restOf (f : Func) (r : Nat) : Code := ((f.body.bind (dropTo r)).getD .skip)

/-- what stands behind learn -/
structure St51 (AG V ST EX WS WE AS n1 n2 ag : Nat) (p1 : Option Addr) (v t : Int) (va vt vp : Nat → Int) (vk : Nat → Bool) (sk ch : Bool) (S : Nat → Lhs) (hs : Nat → Bool) (X : Nat → Option Nat) (w W : World) : Prop where
  a10 : W.cell? ⟨AG, 10, none⟩ = some (.slice (some ⟨V, 0, none⟩) n1 n1)
  a11 : W.cell? ⟨AG, 11, none⟩ = some (.slice (some ⟨ST, 0, none⟩) n2 n2)
  a14 : W.cell? ⟨AG, 14, none⟩ = some (.slice (some ⟨EX, 0, none⟩) n1 n1)
  view : Cells W V (n1 * 4) (vwOf (if sk then va else upd va ag v) (if sk then vt else upd vt ag t) (if ch then upd vp ag (-1) else vp) (if sk then vk else upd vk ag true))
  st : Cells W ST (n2 * 2) (stOf S hs)
  ex : Cells W EX n1 (exOf X)
  ws : Cells W WS n2 (fun i => .bool (hs i))
  we : Cells W WE n1 (exOf X)
  as1 : W.cell? ⟨AS, 1, none⟩ = some (.int .i64 v)
  as2 : W.cell? ⟨AS, 2, none⟩ = some (.int .i64 t)
  inp : ∃ b o, p1 = some ⟨b, o, none⟩ ∧ ∀ i, i < n1 → W.cell? ⟨b, o + i * 4, none⟩ = some (.int .i64 (va i)) ∧ W.cell? ⟨b, o + i * 4 + 1, none⟩ = some (.int .i64 (vt i)) ∧ W.cell? ⟨b, o + i * 4 + 2, none⟩ = some (.int .i64 (vp i)) ∧ W.cell? ⟨b, o + i * 4 + 3, none⟩ = some (.bool (vk i))
  skch : sk = true → ch = false
  bel : Below w.heap.size w W

theorem St51.later {AG V ST EX WS WE AS n1 n2 ag : Nat} {p1 : Option Addr} {v t : Int} {va vt vp : Nat → Int} {vk : Nat → Bool} {sk ch : Bool} {S : Nat → Lhs} {hs : Nat → Bool} {X : Nat → Option Nat} {w W W' : World}
    (h : St51 AG V ST EX WS WE AS n1 n2 ag p1 v t va vt vp vk sk ch S hs X w W) (hb : Below W.heap.size W W') : St51 AG V ST EX WS WE AS n1 n2 ag p1 v t va vt vp vk sk ch S hs X w W' := by
  refine ⟨cell_later hb h.a10, cell_later hb h.a11, cell_later hb h.a14, h.view.later hb, h.st.later hb, h.ex.later hb, h.ws.later hb, h.we.later hb, cell_later hb h.as1, cell_later hb h.as2, ?_, h.skch, h.bel.trans (hb.mono h.bel.size)⟩
  obtain ⟨b, o, e, hc⟩ := h.inp
  exact ⟨b, o, e, fun i hi => by obtain ⟨c0, c1, c2, c3⟩ := hc i hi; exact ⟨cell_later hb c0, cell_later hb c1, cell_later hb c2, cell_later hb c3⟩⟩

theorem neq61 (o : Option Nat) (w : World) : (binOp .neq 61 (ptr o) (ptr o)).run Yba.prog w = .ok (.bool false) w := by
  obtain ⟨j, hj⟩ : ∃ j, Yba.prog.info? 63 = some j := Option.isSome_iff_exists.1 (by kernel_rfl)
  cases o with
  | none =>
    have h : ∀ d : Nat, (Op.equalIn (d + 1) 61 (.pointer none) (.pointer none)).run Yba.prog w = .ok true w := fun d => by
      simp [Op.equalIn, run_underlying Yba.underlying61]
    simp only [binOp, ptr, Option.map_none]
    simp [Op.equal, Op.maxDepth, h 9999]
  | some b =>
    have h : ∀ d : Nat, (Op.equalIn (d + 1) 61 (.pointer (some ⟨b, 0, none⟩)) (.pointer (some ⟨b, 0, none⟩))).run Yba.prog w = .ok true w := fun d => by
      simp [Op.equalIn, run_underlying Yba.underlying61, sizeOf, typeInfo, hj, run_sameAddr_same]
    simp only [binOp, ptr, Option.map_some]
    simp [Op.equal, Op.maxDepth, h 9999]

set_option maxRecDepth 1000000 in
set_option maxHeartbeats 4000000 in
theorem lrn_51 (AG V ST EX WS WE AS n1 n2 ag c1 c2 : Nat) (p1 p2 : Option Addr) (v t : Int) (va vt vp : Nat → Int) (vk : Nat → Bool) (sk ch : Bool) (S : Nat → Lhs) (hs : Nat → Bool) (X : Nat → Option Nat) (w W : World) (h1 : n1 ≤ 1024) (h2 : n2 ≤ 1024) (hag : ag < n1)
    (hI : St51 AG V ST EX WS WE AS n1 n2 ag p1 v t va vt vp vk sk ch S hs X w W)
    (x0 x3 x4 x5 x6 x7 x8 x10 x12 x13 x14 x15 x16 x19 x20 x21 x22 x23 x27 x29 x30 x31 x32 x33 x34 x35 x36 x37 x38 x39 x40 x41 x42 x43 x44 x45 x46 x47 x48 x49 x50 x51 x52 x53 x54 x55 x56 x57 x58 x59 x60 x61 x62 x63 x64 x65 x66 x67 x68 x69 x70 x71 x72 x73 x74 x75 x76 x77 x78 x79 x80 x81 x82 x83 x84 x85 x86 x87 x88 x89 x90 x91 x92 x93 x94 x95 x96 x97 x98 x99 x100 x101 x102 x103 x104 x105 x106 x107 x108 x109 x110 x111 x112 x113 x114 x115 x116 x117 x118 x119 x120 x121 x122 x123 x124 x125 x126 x127 x128 x129 x130 x131 x132 x133 x134 x135 x136 x137 x138 x139 x140 x141 x142 x143 x144 x145 x146 x147 x148 x149 x150 x151 x152 x153 x154 x155 x156 x157 x158 x159 x160 x161 x162 x163 x164 x165 x166 x167 x168 x169 x170 x171 x172 x173 x174 x175 x176 x177 x178 x179 x180 x181 x182 x183 x184 x185 x186 x187 x188 x189 x190 x191 x192 x193 x194 x195 x196 x197 x198 x199 x200 x201 x202 x203 x204 x205 x206 x207 x208 x209 x210 x211 x212 x213 x214 x215 x216 x217 x218 x219 x220 x221 x222 x223 x224 x225 x226 x227 x228 x229 x230 x231 x232 x233 x234 x235 x236 x237 x238 x239 x240 x241 x242 x243 x244 x245 x246 x247 x248 x249 x250 x251 x252 x253 x254 x255 x256 x257 x258 x259 x260 x261 x262 x263 x264 x265 x266 x267 x268 x269 x270 x271 x272 x273 x274 x275 x276 x277 x278 x279 x280 x281 x282 x283 x284 x285 x286 x287 x288 x289 x290 x291 x292 x293 x294 x295 x296 x297 x298 x299 x300 x301 x302 x303 x304 x305 x306 x307 x308 x309 x310 x311 x312 x313 x314 x315 x316 x317 x318 x319 x320 x321 x322 x323 x324 x325 x326 x327 x328 x329 x330 x331 x332 x333 x334 x335 x336 x337 x338 x339 x340 x341 x342 x343 x344 x345 x346 x347 x348 x349 x350 x351 x352 x353 x354 x355 x356 x357 x358 x359 x360 x361 x362 x363 x364 x365 x366 x367 x368 x369 x370 x371 x372 x373 x374 x375 x376 x377 x378 x379 x380 x381 x382 x383 x384 x385 x386 x387 x388 x389 x390 x391 x392 x393 x394 x395 x396 x397 x398 x399 x400 x401 x402 x403 x404 x405 x406 x407 x408 x409 x410 x411 x412 x413 x414 x415 x416 x417 x418 x419 x420 x421 x422 x423 x424 x425 x426 : Value) :
    Code.wp Yba.prog (restOf Yba.f3 51) (bodyPost Yba.prog Yba.f3 (fun e w' => e = .returned (.bool true) ∧ Below w.heap.size w w')) ⟨#[x0, .slice p1 n1 c1, .slice p2 n2 c2, x3, x4, x5, x6, x7, x8, .pointer (some ⟨AS, 0, none⟩), x10, .int .i64 n1, x12, x13, x14, x15, x16, .int .i64 ag, .pointer (some ⟨AG, 0, none⟩), x19, x20, x21, x22, x23, .bool sk, .bool ch, .slice (some ⟨WS, 0, none⟩) n2 n2, x27, .slice (some ⟨WE, 0, none⟩) n1 n1, x29, x30, x31, x32, x33, x34, x35, x36, x37, x38, x39, x40, x41, x42, x43, x44, x45, x46, x47, x48, x49, x50, x51, x52, x53, x54, x55, x56, x57, x58, x59, x60, x61, x62, x63, x64, x65, x66, x67, x68, x69, x70, x71, x72, x73, x74, x75, x76, x77, x78, x79, x80, x81, x82, x83, x84, x85, x86, x87, x88, x89, x90, x91, x92, x93, x94, x95, x96, x97, x98, x99, x100, x101, x102, x103, x104, x105, x106, x107, x108, x109, x110, x111, x112, x113, x114, x115, x116, x117, x118, x119, x120, x121, x122, x123, x124, x125, x126, x127, x128, x129, x130, x131, x132, x133, x134, x135, x136, x137, x138, x139, x140, x141, x142, x143, x144, x145, x146, x147, x148, x149, x150, x151, x152, x153, x154, x155, x156, x157, x158, x159, x160, x161, x162, x163, x164, x165, x166, x167, x168, x169, x170, x171, x172, x173, x174, x175, x176, x177, x178, x179, x180, x181, x182, x183, x184, x185, x186, x187, x188, x189, x190, x191, x192, x193, x194, x195, x196, x197, x198, x199, x200, x201, x202, x203, x204, x205, x206, x207, x208, x209, x210, x211, x212, x213, x214, x215, x216, x217, x218, x219, x220, x221, x222, x223, x224, x225, x226, x227, x228, x229, x230, x231, x232, x233, x234, x235, x236, x237, x238, x239, x240, x241, x242, x243, x244, x245, x246, x247, x248, x249, x250, x251, x252, x253, x254, x255, x256, x257, x258, x259, x260, x261, x262, x263, x264, x265, x266, x267, x268, x269, x270, x271, x272, x273, x274, x275, x276, x277, x278, x279, x280, x281, x282, x283, x284, x285, x286, x287, x288, x289, x290, x291, x292, x293, x294, x295, x296, x297, x298, x299, x300, x301, x302, x303, x304, x305, x306, x307, x308, x309, x310, x311, x312, x313, x314, x315, x316, x317, x318, x319, x320, x321, x322, x323, x324, x325, x326, x327, x328, x329, x330, x331, x332, x333, x334, x335, x336, x337, x338, x339, x340, x341, x342, x343, x344, x345, x346, x347, x348, x349, x350, x351, x352, x353, x354, x355, x356, x357, x358, x359, x360, x361, x362, x363, x364, x365, x366, x367, x368, x369, x370, x371, x372, x373, x374, x375, x376, x377, x378, x379, x380, x381, x382, x383, x384, x385, x386, x387, x388, x389, x390, x391, x392, x393, x394, x395, x396, x397, x398, x399, x400, x401, x402, x403, x404, x405, x406, x407, x408, x409, x410, x411, x412, x413, x414, x415, x416, x417, x418, x419, x420, x421, x422, x423, x424, x425, x426], []⟩ W := by
  have HI : Hid (St51 AG V ST EX WS WE AS n1 n2 ag p1 v t va vt vp vk sk ch S hs X w W) := hI
  clear hI
  conv => arg 2; whnf
  go_wp2_with fail
  go_loopw [30] (fun x wr => ∃ k : Nat, k ≤ n1 ∧ x = .int .i64 k ∧ Below W.heap.size W wr) (fun x _ => n1 - (intOf x).toNat)
  case atStart => exact ⟨0, Nat.zero_le _, rfl, Below.refl _ _⟩
  case round =>
    obtain ⟨k, hk, rfl, hb⟩ := hrel
    by_cases hlt : k < n1
    · have hR := HI.out.later hb
      obtain ⟨b, o, e, hc⟩ := hR.inp
      cases e
      obtain ⟨d0, d1, d2, d3⟩ := hc k hlt
      have a10 := hR.a10
      have v0 := hR.view.cell (k * 4) (by omega)
      have v1 := hR.view.cell (k * 4 + 1) (by omega)
      have v2 := hR.view.cell (k * 4 + 2) (by omega)
      have v3 := hR.view.cell (k * 4 + 3) (by omega)
      rw [vwOf0] at v0
      rw [vwOf1] at v1
      rw [vwOf2] at v2
      rw [vwOf3] at v3
      have s1 := hR.as1
      have s2 := hR.as2
      have lb : b < wr.heap.size := World.block_lt_of_cell? _ _ d0
      have lA : AG < wr.heap.size := World.block_lt_of_cell? _ _ a10
      have lV : V < wr.heap.size := hR.view.lt
      have lS : AS < wr.heap.size := World.block_lt_of_cell? _ _ s1
      have hsc := hR.skch
      clear hR hc
      have hkI : (0 : Int) ≤ (k : Int) := by omega
      have hkN : (k : Int) < (n1 : Int) := by omega
      go_upto_region 54 with fail
      have e1 : ¬ wr.heap.size = b := by omega
      have e2 : ¬ b = wr.heap.size := by omega
      have e3 : ¬ wr.heap.size = AG := by omega
      have e4 : ¬ wr.heap.size = V := by omega
      have e5 : ¬ wr.heap.size = AS := by omega
      go_cut [31] (fun s31 wx => s31 = .pointer (some ⟨wr.heap.size, 0, none⟩) ∧ wx = (wr.alloc (.cells #[.int .i64 (va k), .int .i64 (vt k), .int .i64 (vp k), .bool (vk k)] 57)).drew)
      case first =>
        go_region_held3 (fun w' => w'.cell? ⟨b, o + k * 4, none⟩ = some (.int .i64 (va k)) ∧ w'.cell? ⟨b, o + k * 4 + 1, none⟩ = some (.int .i64 (vt k)) ∧ w'.cell? ⟨b, o + k * 4 + 2, none⟩ = some (.int .i64 (vp k)) ∧ w'.cell? ⟨b, o + k * 4 + 3, none⟩ = some (.bool (vk k))) (go_keep) (fail)
        go_wp2_with fail
        go_meet
        exact ⟨rfl, rfl⟩
      case rest =>
      obtain ⟨rfl, rfl⟩ := hcut
      have hbT : Below wr.heap.size wr (wr.alloc (.cells #[.int .i64 (va k), .int .i64 (vt k), .int .i64 (vp k), .bool (vk k)] 57)).drew := ((Below.refl _ _).alloc (Nat.le_refl _) _).drew
      have hCT : Cells (wr.alloc (.cells #[.int .i64 (va k), .int .i64 (vt k), .int .i64 (vp k), .bool (vk k)] 57)).drew wr.heap.size 4 (fun i => (#[.int .i64 (va k), .int .i64 (vt k), .int .i64 (vp k), .bool (vk k)] : Array Value)[i]!) := (cells_new wr _ 57).drew
      have a10' := cell_later hbT a10
      have v0' := cell_later hbT v0
      have v1' := cell_later hbT v1
      have v2' := cell_later hbT v2
      have v3' := cell_later hbT v3
      have s1' := cell_later hbT s1
      have s2' := cell_later hbT s2
      have HB : Hid (Below W.heap.size W (wr.alloc (.cells #[.int .i64 (va k), .int .i64 (vt k), .int .i64 (vp k), .bool (vk k)] 57)).drew) := hb.trans (hbT.mono hb.size)
      have hWl : W.heap.size ≤ wr.heap.size := hb.size
      clear hbT hb a10 v0 v1 v2 v3 s1 s2 d0 d1 d2 d3
      generalize (wr.alloc (.cells #[.int .i64 (va k), .int .i64 (vt k), .int .i64 (vp k), .bool (vk k)] 57)).drew = T at *
      have t0 : T.cell? ⟨wr.heap.size, 0, none⟩ = some (.int .i64 (va k)) := hCT.cell 0 (by omega)
      have t1 : T.cell? ⟨wr.heap.size, 1, none⟩ = some (.int .i64 (vt k)) := hCT.cell 1 (by omega)
      have t2 : T.cell? ⟨wr.heap.size, 2, none⟩ = some (.int .i64 (vp k)) := hCT.cell 2 (by omega)
      have t3 : T.cell? ⟨wr.heap.size, 3, none⟩ = some (.bool (vk k)) := hCT.cell 3 (by omega)
      have y0 := hCT.free 0 (by omega)
      have y1 := hCT.free 1 (by omega)
      have y2 := hCT.free 2 (by omega)
      have y3 := hCT.free 3 (by omega)
      clear hCT
      have e6 : ¬ AG = wr.heap.size := fun h => e3 h.symm
      have e7 : ¬ V = wr.heap.size := fun h => e4 h.symm
      have e8 : ¬ AS = wr.heap.size := fun h => e5 h.symm
      by_cases hka : k = ag
      · subst hka
        have gk : ((k : Int) == (k : Int)) = true := by simp
        cases sk with
        | false =>
          cases ch with
          | true =>
            simp [upd] at v0' v1' v2' v3'
            go_upto_region 61 with fail
            go_quiet (fail)
            go_wp2_with fail
            go_roundw
            case rel => exact ⟨k + 1, by omega, by go_num, below_drewN' ((((HB.out.setCell hWl _).setCell hWl _).setCell hWl _).setCell hWl _) _⟩
            case measure => simp [intOf]; omega
          | false =>
            simp [upd] at v0' v1' v2' v3'
            go_upto_region 61 with fail
            go_quiet (fail)
            go_wp2_with fail
            go_roundw
            case rel => exact ⟨k + 1, by omega, by go_num, below_drewN' (((HB.out.setCell hWl _).setCell hWl _).setCell hWl _) _⟩
            case measure => simp [intOf]; omega
        | true =>
          obtain rfl := hsc rfl
          simp at v0' v1' v2' v3'
          go_upto_region 61 with fail
          go_quiet (fail)
          go_wp2_with fail
          go_roundw
          case rel => exact ⟨k + 1, by omega, by go_num, below_drewN' HB.out _⟩
          case measure => simp [intOf]; omega
      · have gk : ((k : Int) == (ag : Int)) = false := by simp; omega
        have i0 : (if sk = true then va else upd va ag v) k = va k := by cases sk <;> simp [upd, hka]
        have i1 : (if sk = true then vt else upd vt ag t) k = vt k := by cases sk <;> simp [upd, hka]
        have i2 : (if ch = true then upd vp ag (-1) else vp) k = vp k := by cases ch <;> simp [upd, hka]
        have i3 : (if sk = true then vk else upd vk ag true) k = vk k := by cases sk <;> simp [upd, hka]
        rw [i0] at v0'
        rw [i1] at v1'
        rw [i2] at v2'
        rw [i3] at v3'
        clear i0 i1 i2 i3
        go_upto_region 61 with fail
        go_quiet (fail)
        go_wp2_with fail
        go_roundw
        case rel => exact ⟨k + 1, by omega, by go_num, below_drewN' HB.out _⟩
        case measure => simp [intOf]; omega
    · obtain rfl : n1 = k := by omega
      obtain ⟨W1, rfl⟩ : ∃ W1, W1 = wr := ⟨wr, rfl⟩
      have HR : Hid (St51 AG V ST EX WS WE AS n1 n2 ag p1 v t va vt vp vk sk ch S hs X w W1) := HI.out.later hb
      have a11 := HR.out.a11
      clear HI hb
      go_wp2_with fail
      go_loopw [32] (fun x wr => ∃ k : Nat, k ≤ n2 ∧ x = .int .i64 k ∧ Below W1.heap.size W1 wr) (fun x _ => n2 - (intOf x).toNat)
      case atStart => exact ⟨0, Nat.zero_le _, rfl, Below.refl _ _⟩
      case round =>
        obtain ⟨k, hk, rfl, hb⟩ := hrel
        clear a11
        have hR := HR.out.later hb
        by_cases hlt : k < n2
        · have a11 := hR.a11
          have c1 := hR.st.cell (k * 2 + 1) (by omega)
          rw [stOf1] at c1
          have d1 := hR.ws.cell k hlt
          clear hR
          generalize hs k = x at *
          cases x with
          | true =>
            go_upto_region 68 with fail
            go_quiet (fail)
            go_wp2_with fail
            go_roundw
            case rel => exact ⟨k + 1, by omega, by go_num, below_drewN' hb _⟩
            case measure => simp [intOf]; omega
          | false =>
            go_upto_region 68 with fail
            go_quiet (fail)
            go_wp2_with fail
            go_roundw
            case rel => exact ⟨k + 1, by omega, by go_num, below_drewN' hb _⟩
            case measure => simp [intOf]; omega
        · obtain rfl : n2 = k := by omega
          obtain ⟨W2, rfl⟩ : ∃ W2, W2 = wr := ⟨wr, rfl⟩
          have HR2 : Hid (St51 AG V ST EX WS WE AS n1 n2 ag p1 v t va vt vp vk sk ch S hs X w W2) := hR
          have a14 := hR.a14
          clear HR hb hR
          go_wp2_with fail
          go_loopw [33] (fun x wr => ∃ k : Nat, k ≤ n1 ∧ x = .int .i64 k ∧ Below W2.heap.size W2 wr) (fun x _ => n1 - (intOf x).toNat)
          case atStart => exact ⟨0, Nat.zero_le _, rfl, Below.refl _ _⟩
          case round =>
            obtain ⟨k, hk, rfl, hb⟩ := hrel
            clear a14
            have hR := HR2.out.later hb
            by_cases hlt : k < n1
            · have a14 := hR.a14
              have c1 := hR.ex.cell k hlt
              have d1 := hR.we.cell k hlt
              simp only [exOf] at c1 d1
              have hq := neq61 (X k)
              clear hR
              generalize X k = x at *
              cases x with
              | none =>
                simp only [ptr, Option.map_none] at c1 d1 hq
                go_upto_region 75 with fail
                go_quiet (fail)
                go_wp2_with fail
                go_roundw
                case rel => exact ⟨k + 1, by omega, by go_num, below_drewN' hb _⟩
                case measure => simp [intOf]; omega
              | some b =>
                simp only [ptr, Option.map_some] at c1 d1 hq
                go_upto_region 75 with fail
                go_quiet (fail)
                go_wp2_with fail
                go_roundw
                case rel => exact ⟨k + 1, by omega, by go_num, below_drewN' hb _⟩
                case measure => simp [intOf]; omega
            · obtain rfl : n1 = k := by omega
              go_wp2
              go_ret
              exact ⟨rfl, hR.bel⟩
end Go.Proofs.Ybulkclmc
