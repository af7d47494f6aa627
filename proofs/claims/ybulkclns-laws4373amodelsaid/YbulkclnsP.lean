import Derived.Test.YbulkclnsE
import Derived.Laws.IdiomCopy
namespace Go.Proofs.Ybulkclns
open Go.RowKit

theorem zv59x : ∃ zs : Array Value, (∀ w, (zeroValue 59).run Yba.prog w = .ok (.agg zs) w) ∧ zs.size = 93 :=
  ⟨match (Yba.prog.info? 59).bind (·.zero) with
    | some (.agg c) => c
    | _ => #[], fun w => by kernel_rfl, by kernel_rfl⟩
theorem zv63x : ∃ zs : Array Value, (∀ w, (zeroValue 63).run Yba.prog w = .ok (.agg zs) w) ∧ zs.size = 102 :=
  ⟨match (Yba.prog.info? 63).bind (·.zero) with
    | some (.agg c) => c
    | _ => #[], fun w => by kernel_rfl, by kernel_rfl⟩

theorem new_cell (w : World) (cs : Array Value) (t i : Nat) {v : Value} (h : cs[i]? = some v) : (w.alloc (.cells cs t)).cell? ⟨w.heap.size, i, none⟩ = some v := by
  obtain ⟨hi, hv⟩ := Array.getElem?_eq_some_iff.1 h
  have := (cells_new w cs t).cell i hi
  rw [this]
  simp [hi, hv]

theorem setCells_keeps (b : Nat) : ∀ (vs : List Value) (o : Nat) (w : World), Keeps (fun x => x = b) w (w.setCells b o vs)
  | [], _, w => Keeps.refl _ w
  | v :: r, o, w => (keep1 w b o v).trans (setCells_keeps b r (o + 1) (w.setCell ⟨b, o, none⟩ v))

theorem copy_ex (FH F0 kk : Nat) (f : Nat → Int) (z : Nat → Value) (w : World) (hF : Cells w F0 kk (fun i => .int .i64 (f i))) (hZ : Cells w FH kk z) :
    ∃ w', (∀ ty, (Builtin.copy_ #[35, 24] ty #[.slice (some ⟨FH, 0, none⟩) kk kk, .slice (some ⟨F0, 0, none⟩) kk kk]).run Yba.prog w = .ok (.int .i64 kk) w') ∧ Cells w' FH kk (fun i => .int .i64 (f i)) ∧ Keeps (fun x => x = FH) w w' := by
  have hl : ((List.range kk).map (fun i => Value.int .i64 (f i))).length = kk := by simp
  have hk := setCells_keeps FH ((List.range kk).map (fun i => Value.int .i64 (f i))) 0 w
  refine ⟨w.setCells FH 0 ((List.range kk).map (fun i => Value.int .i64 (f i))), fun ty => ?_, ⟨fun i hi => ?_, fun i hi => ?_, Nat.lt_of_lt_of_le hZ.lt hk.size⟩, hk⟩
  · have := run_copy_cells (P := Yba.prog) w 35 24 ty 2 FH 0 kk kk ⟨F0, 0, none⟩ kk kk ((List.range kk).map (fun i => Value.int .i64 (f i))) Yba.underlying35 (by kernel_rfl) (by simp) (fun j v hj => ?_) (fun j hj => ?_) (fun j hj => ?_) (fun v hv => ?_)
    · rw [this, hl]; rfl
    · simp only [List.getElem?_map, Option.map_eq_some_iff] at hj
      obtain ⟨a, h1, rfl⟩ := hj
      have h2 := List.getElem?_eq_some_iff.1 h1
      obtain ⟨h3, h4⟩ := h2
      simp at h3 h4
      subst h4
      have := hF.cell j h3
      by_cases e : j = 0
      · subst e; simpa [Addr.add] using this
      · simpa [Addr.add, e] using this
    · rw [hl] at hj; rw [Nat.zero_add, hZ.cell j hj]; rfl
    · rw [hl] at hj; rw [Nat.zero_add]; exact hZ.free j hj
    · simp at hv; obtain ⟨a, _, rfl⟩ := hv; rfl
  · have := World.cell?_setCells_in FH ((List.range kk).map (fun i => Value.int .i64 (f i))) 0 w (fun j hj => by rw [hl] at hj; rw [Nat.zero_add, hZ.cell j hj]; rfl) i (by rw [hl]; exact hi)
    rw [Nat.zero_add] at this
    rw [this]; simp
  · rw [World.frozen?_setCells]; exact hZ.free i hi

set_option maxRecDepth 1000000 in
set_option maxHeartbeats 8000000 in
theorem mod_31 (FH F0 VS VB LM kk fi n n0 sc1 sc2 : Nat) (sp1 sp2 : Option Addr) (g : Nat → Int) (q : Nat → Nat) (h mh : Int) (f : Nat → Int) (w W W1 : World)
    (hFH : FH = W.heap.size) (hZ : Cells W1 FH kk (fun _ => .int .i64 0)) (hb1 : Below W.heap.size W W1) (hC : Cells W F0 kk (fun i => .int .i64 (f i))) (hv : W.cell? ⟨VS, 0, none⟩ = some (.slice (some ⟨VB, 0, none⟩) kk kk)) (hVl : VS < W.heap.size)
    (r1 : 0 < n → ∃ b, sp1 = some ⟨b, 0, none⟩ ∧ ¬ b = LM ∧ b < W.heap.size ∧ ∀ i, i < n → W.cell? ⟨b, i, none⟩ = some (.int .i64 (g i))) (r2 : 0 < n → ∃ b, sp2 = some ⟨b, 0, none⟩ ∧ ¬ b = LM ∧ b < W.heap.size ∧ ∀ i, i < n → W.cell? ⟨b, i, none⟩ = some (.pointer (some ⟨q i, 0, none⟩)))
    (hM : MapP W LM (kmap g q n) n n0) (hd : ∀ i j, i < n → j < n → g i = g j → i = j) (hr : ∀ i, i < n → 0 ≤ g i ∧ g i ≤ 100000) (hf : ∀ i, 0 ≤ f i ∧ f i ≤ 100000) (hbw : Below w.heap.size w W) (hL : w.heap.size ≤ LM) (hVL : ¬ VS = LM) (hFL : ¬ F0 = LM)
    (hn : n ≤ 1024) (hn0 : n0 ≤ 1024) (hk0 : 0 < kk) (hk : kk ≤ 6) (hfi : fi < kk) (hm0 : 0 ≤ mh) (hm1 : mh ≤ 100000) (hh0 : 0 ≤ h) (hh1 : h ≤ 65535)
    (x0 x1 x2 x3 x4 x5 x6 x7 x8 x9 x10 x11 x12 x19 x20 x25 x26 x27 x28 x30 x31 x32 x33 x34 x35 x36 x37 x38 x39 x40 x41 x42 x43 x44 x45 x46 x47 x48 x49 x50 x51 x52 x53 x54 x55 x56 x57 x58 x59 x60 x61 x62 x63 x64 x65 x66 x67 x68 x69 x70 x71 x72 x73 x74 x75 x76 x77 x78 x79 x80 x81 x82 x83 x84 x85 x86 x87 x88 x89 x90 x91 x92 x93 x94 x95 x96 x97 x98 x99 x100 x101 x102 x103 x104 x105 x106 x107 x108 x109 x110 x111 x112 x113 x114 x115 x116 x117 x118 x119 x120 x121 x122 x123 x124 x125 x126 x127 x128 x129 x130 x131 x132 x133 x134 x135 x136 x137 x138 x139 x140 x141 x142 x143 x144 x145 x146 x147 x148 x149 x150 x151 x152 x153 x154 x155 x156 x157 x158 x159 x160 x161 x162 x163 x164 x165 x166 x167 x168 x169 x170 x171 x172 x173 x174 x175 x176 x177 x178 x179 x180 x181 x182 x183 x184 x185 x186 x187 x188 x189 x190 x191 x192 x193 x194 x195 x196 x197 x198 x199 x200 x201 x202 x203 x204 x205 x206 x207 x208 x209 x210 x211 x212 x213 x214 x215 x216 x217 x218 x219 x220 x221 x222 x223 x224 x225 x226 x227 x228 x229 x230 x231 x232 x233 x234 x235 x236 x237 x238 x239 x240 x241 x242 x243 x244 x245 x246 x247 x248 x249 x250 x251 x252 x253 x254 x255 x256 x257 x258 x259 x260 x261 x262 x263 x264 x265 x266 x267 x268 x269 x270 x271 x272 x273 x274 x275 x276 x277 x278 x279 x280 x281 x282 x283 x284 x285 x286 x287 x288 x289 x290 x291 x292 x293 x294 x295 x296 x297 x298 x299 x300 x301 x302 x303 x304 x305 x306 x307 x308 x309 x310 x311 x312 x313 x314 x315 x316 x317 x318 x319 x320 x321 x322 x323 x324 x325 x326 x327 x328 x329 x330 x331 x332 x333 x334 x335 : Value) :
    Code.wp Yba.prog (codeAt Yba.f3 31) (bodyPost Yba.prog Yba.f3 (fun e w' => e = .returned (.bool true) ∧ Below w.heap.size w w')) ⟨#[x0, x1, x2, x3, x4, x5, x6, x7, x8, x9, x10, x11, x12, .int .i64 kk, .int .i64 fi, .int .i64 h, .int .i64 (h + 8), .int .i64 mh, .slice (some ⟨F0, 0, none⟩) kk kk, x19, x20, .pointer (some ⟨VS, 0, none⟩), .map (some LM), .slice sp1 n sc1, .slice sp2 n sc2, x25, x26, x27, x28, .slice (some ⟨FH, 0, none⟩) kk kk, x30, x31, x32, x33, x34, x35, x36, x37, x38, x39, x40, x41, x42, x43, x44, x45, x46, x47, x48, x49, x50, x51, x52, x53, x54, x55, x56, x57, x58, x59, x60, x61, x62, x63, x64, x65, x66, x67, x68, x69, x70, x71, x72, x73, x74, x75, x76, x77, x78, x79, x80, x81, x82, x83, x84, x85, x86, x87, x88, x89, x90, x91, x92, x93, x94, x95, x96, x97, x98, x99, x100, x101, x102, x103, x104, x105, x106, x107, x108, x109, x110, x111, x112, x113, x114, x115, x116, x117, x118, x119, x120, x121, x122, x123, x124, x125, x126, x127, x128, x129, x130, x131, x132, x133, x134, x135, x136, x137, x138, x139, x140, x141, x142, x143, x144, x145, x146, x147, x148, x149, x150, x151, x152, x153, x154, x155, x156, x157, x158, x159, x160, x161, x162, x163, x164, x165, x166, x167, x168, x169, x170, x171, x172, x173, x174, x175, x176, x177, x178, x179, x180, x181, x182, x183, x184, x185, x186, x187, x188, x189, x190, x191, x192, x193, x194, x195, x196, x197, x198, x199, x200, x201, x202, x203, x204, x205, x206, x207, x208, x209, x210, x211, x212, x213, x214, x215, x216, x217, x218, x219, x220, x221, x222, x223, x224, x225, x226, x227, x228, x229, x230, x231, x232, x233, x234, x235, x236, x237, x238, x239, x240, x241, x242, x243, x244, x245, x246, x247, x248, x249, x250, x251, x252, x253, x254, x255, x256, x257, x258, x259, x260, x261, x262, x263, x264, x265, x266, x267, x268, x269, x270, x271, x272, x273, x274, x275, x276, x277, x278, x279, x280, x281, x282, x283, x284, x285, x286, x287, x288, x289, x290, x291, x292, x293, x294, x295, x296, x297, x298, x299, x300, x301, x302, x303, x304, x305, x306, x307, x308, x309, x310, x311, x312, x313, x314, x315, x316, x317, x318, x319, x320, x321, x322, x323, x324, x325, x326, x327, x328, x329, x330, x331, x332, x333, x334, x335], []⟩ W1 := by
  have HI : Hid (Cells W F0 kk (fun i => .int .i64 (f i)) ∧ W.cell? ⟨VS, 0, none⟩ = some (.slice (some ⟨VB, 0, none⟩) kk kk) ∧ VS < W.heap.size ∧ MapP W LM (kmap g q n) n n0 ∧ Below w.heap.size w W) := ⟨hC, hv, hVl, hM, hbw⟩
  have HR : Hid ((0 < n → ∃ b, sp1 = some ⟨b, 0, none⟩ ∧ ¬ b = LM ∧ b < W.heap.size ∧ ∀ i, i < n → W.cell? ⟨b, i, none⟩ = some (.int .i64 (g i))) ∧ (0 < n → ∃ b, sp2 = some ⟨b, 0, none⟩ ∧ ¬ b = LM ∧ b < W.heap.size ∧ ∀ i, i < n → W.cell? ⟨b, i, none⟩ = some (.pointer (some ⟨q i, 0, none⟩))) ∧ (∀ i j, i < n → j < n → g i = g j → i = j) ∧ (∀ i, i < n → 0 ≤ g i ∧ g i ≤ 100000) ∧ (∀ i, 0 ≤ f i ∧ f i ≤ 100000)) := ⟨r1, r2, hd, hr, hf⟩
  clear hC hv hVl r1 r2 hM hd hr hf hbw
  obtain ⟨W2, hcp, hF2, hK2⟩ := copy_ex FH F0 kk f _ W1 (HI.out.1.later hb1) hZ
  have HFH : Hid (FH = W.heap.size) := hFH
  have H2 : Hid (Cells W2 FH kk (fun i => .int .i64 (f i)) ∧ Below W.heap.size W W2 ∧ FH < W2.heap.size) := ⟨hF2, hb1.trans (hK2.below hb1.size (fun k e => by omega)), hF2.lt⟩
  clear hb1 hZ hF2 hK2 hFH
  conv => arg 2; whnf
  conv => arg 4; dsimp only
  go_upto_region 31 with fail
  go_cut [] from 132 to 134 (fun wx => wx = W2)
  case first =>
    go_wp2_with fail
    go_meet
    rfl
  case rest =>
  obtain rfl := hcut
  obtain ⟨W2, rfl⟩ : ∃ x, x = wc := ⟨wc, rfl⟩
  clear hcp
  obtain ⟨zs, hzv, hzn⟩ : ∃ zs : Array Value, (∀ w, (zeroValue 59).run Yba.prog w = .ok (.agg zs) w) ∧ zs.size = 93 := zv59x
  have hzne : ¬ zs = #[] := fun e => by rw [e] at hzn; simp at hzn
  obtain ⟨NN, hNN⟩ : ∃ x, x = W2.heap.size := ⟨_, rfl⟩
  have HNN : Hid (NN = W2.heap.size) := hNN
  clear hNN
  apply_assumption
  go_upto_region 32 with fail
  go_cut [30] from 135 to 140 (fun s wx => s = .pointer (some ⟨NN, 0, none⟩) ∧ ∃ cs : Array Value, wx = W2.alloc (.cells cs 59) ∧ cs[1]? = some (.pointer (some ⟨VS, 0, none⟩)) ∧ cs[10]? = some (.int .i64 h) ∧ cs[14]? = some (.map (some LM)) ∧ cs[15]? = some (.slice (some ⟨FH, 0, none⟩) kk kk))
  case first =>
    go_wp2_with fail
    go_meet
    exact ⟨by rw [HNN.out], _, rfl, by simp [hzn], by simp [hzn], by simp [hzn], by simp [hzn]⟩
  case rest =>
  obtain ⟨rfl, cs, hwc, p1, p10, p14, p15⟩ := hcut
  have hb3 : Below W2.heap.size W2 wc := by rw [hwc]; exact bl_new (Below.refl _ _) _
  have hs3 : wc.heap.size = W2.heap.size + 1 := by rw [hwc]; simp
  have hN1 : wc.cell? ⟨NN, 1, none⟩ = some (.pointer (some ⟨VS, 0, none⟩)) := by rw [hwc, HNN.out]; exact new_cell W2 cs 59 1 p1
  have hN10 : wc.cell? ⟨NN, 10, none⟩ = some (.int .i64 h) := by rw [hwc, HNN.out]; exact new_cell W2 cs 59 10 p10
  have hN14 : wc.cell? ⟨NN, 14, none⟩ = some (.map (some LM)) := by rw [hwc, HNN.out]; exact new_cell W2 cs 59 14 p14
  have hN15 : wc.cell? ⟨NN, 15, none⟩ = some (.slice (some ⟨FH, 0, none⟩) kk kk) := by rw [hwc, HNN.out]; exact new_cell W2 cs 59 15 p15
  clear hwc hzv hzn hzne p1 p10 p14 p15
  obtain ⟨W3, rfl⟩ : ∃ x, x = wc := ⟨wc, rfl⟩
  have H3 : Hid (Below W2.heap.size W2 W3 ∧ W3.heap.size = W2.heap.size + 1 ∧ W3.cell? ⟨NN, 1, none⟩ = some (.pointer (some ⟨VS, 0, none⟩)) ∧ W3.cell? ⟨NN, 10, none⟩ = some (.int .i64 h) ∧ W3.cell? ⟨NN, 14, none⟩ = some (.map (some LM)) ∧ W3.cell? ⟨NN, 15, none⟩ = some (.slice (some ⟨FH, 0, none⟩) kk kk)) := ⟨hb3, hs3, hN1, hN10, hN14, hN15⟩
  clear hb3 hs3 hN1 hN10 hN14 hN15
  obtain ⟨zs, hzv, hzn⟩ : ∃ zs : Array Value, (∀ w, (zeroValue 63).run Yba.prog w = .ok (.agg zs) w) ∧ zs.size = 102 := zv63x
  have hzne : ¬ zs = #[] := fun e => by rw [e] at hzn; simp at hzn
  obtain ⟨MS, hMS⟩ : ∃ x, x = W3.heap.size := ⟨_, rfl⟩
  have HPM : Hid (MS = W3.heap.size) := hMS
  clear hMS
  apply_assumption
  go_upto_region 33 with fail
  go_cut [31] from 141 to 144 (fun s wx => s = .pointer (some ⟨MS, 0, none⟩) ∧ ∃ cs : Array Value, wx = W3.alloc (.cells cs 63) ∧ cs[1]? = some (.int .i64 mh) ∧ cs[3]? = some (.int .i64 fi))
  case first =>
    go_wp2_with fail
    go_meet
    exact ⟨by rw [HPM.out], _, rfl, by simp [hzn], by simp [hzn]⟩
  case rest =>
  obtain ⟨rfl, cs, hwc, p1, p3⟩ := hcut
  have hb4 : Below W3.heap.size W3 wc := by rw [hwc]; exact bl_new (Below.refl _ _) _
  have hs4 : wc.heap.size = W3.heap.size + 1 := by rw [hwc]; simp
  have hM1 : wc.cell? ⟨MS, 1, none⟩ = some (.int .i64 mh) := by rw [hwc, HPM.out]; exact new_cell W3 cs 63 1 p1
  have hM3 : wc.cell? ⟨MS, 3, none⟩ = some (.int .i64 fi) := by rw [hwc, HPM.out]; exact new_cell W3 cs 63 3 p3
  clear hwc hzv hzn hzne p1 p3
  obtain ⟨T, rfl⟩ : ∃ x, x = wc := ⟨wc, rfl⟩
  have hb24 : Below W2.heap.size W2 T := bl_then hb4 H3.out.1
  have hbT : Below W.heap.size W T := bl_then hb24 H2.out.2.1
  have eN := HNN.out
  have eM := HPM.out
  have eF := HFH.out
  have hFl := H2.out.2.2
  have hLl := HI.out.2.2.2.1.lt
  have hVl := HI.out.2.2.1
  have h0l := HI.out.1.lt
  have hs2 := H2.out.2.1.size
  have hs3 := H3.out.2.1
  have hwW := HI.out.2.2.2.2.size
  have hNI : NodeIn NN MS VS VB FH LM kk fi h mh T := ⟨cell_later hb4 H3.out.2.2.1, cell_later hb4 H3.out.2.2.2.1, cell_later hb4 H3.out.2.2.2.2.1, cell_later hb4 H3.out.2.2.2.2.2, hM1, hM3, cell_later hbT HI.out.2.1, by omega, by omega, by omega, by omega, by omega, hVL, by omega⟩
  have HT : Hid (NodeIn NN MS VS VB FH LM kk fi h mh T ∧ Cells T FH kk (fun i => .int .i64 (f i)) ∧ MapP T LM (kmap g q n) n n0 ∧ Cells T F0 kk (fun i => .int .i64 (f i)) ∧ ¬ F0 = FH ∧ Below W.heap.size W T) := ⟨hNI, H2.out.1.later hb24, HI.out.2.2.2.1.later hbT, HI.out.1.later hbT, by omega, hbT⟩
  clear hb4 hs4 hM1 hM3 hb24 hbT hNI
  apply_assumption
  go_upto_region 34 with fail
  go_cut [32] from 145 to 147 (fun s wx => ∃ o, s = ptr o ∧ LtOut FH LM kk fi n n0 (kmap g q n) f h mh o T wx)
  case first =>
    clear eN eM eF hFl hLl hVl h0l hs2 hs3 hwW
    go_wp2_with fail
    refine (later_any NN MS VS VB FH LM kk fi n n0 (kmap g q n) f h mh T HT.out.1 HT.out.2.1 HT.out.2.2.1 hfi hk (by omega) hh0 hh1 hm0 hm1 HR.out.2.2.2.2).mono ?_
    rintro e wx ⟨o, rfl, hLt⟩
    go_wp2_with fail
    go_meet
    exact ⟨o, rfl, hLt⟩
  case rest =>
  obtain ⟨o, rfl, hLt⟩ := hcut
  have hbT := HT.out.2.2.2.2.2
  obtain ⟨nm, M, hI52⟩ := in52_of (w := w) (sp1 := sp1) (sp2 := sp2) (fun hp => by obtain ⟨b, a1, a2, a3, a4⟩ := HR.out.1 hp; exact ⟨b, a1, by omega, fun i hi => cell_later hbT (a4 i hi)⟩) (fun hp => by obtain ⟨b, a1, a2, a3, a4⟩ := HR.out.2.1 hp; exact ⟨b, a1, by omega, fun i hi => cell_later hbT (a4 i hi)⟩) HT.out.1 HR.out.2.2.1 HR.out.2.2.2.1 hh0 hLt (HI.out.2.2.2.2.trans (hbT.mono hwW)) (by omega) hL
  apply_assumption
  exact mod_35 F0 NN FH LM kk fi n nm (n0 + 1) sc1 sc2 T.heap.size sp1 sp2 g q M o h mh f w wc (hLt.kp.cells (fun e => e.elim HT.out.2.2.2.2.1 hFL) HT.out.2.2.2.1) hI52 hn hk0 hk hfi hm0 hm1 hh0 _ _ _ _ _ _ _ _ _ _ _ _ _ _ _ _ _ _ _ _ _ _ _ _ _ _ _ _ _ _ _ _ _ _ _ _ _ _ _ _ _ _ _ _ _ _ _ _ _ _ _ _ _ _ _ _ _ _ _ _ _ _ _ _ _ _ _ _ _ _ _ _ _ _ _ _ _ _ _ _ _ _ _ _ _ _ _ _ _ _ _ _ _ _ _ _ _ _ _ _ _ _ _ _ _ _ _ _ _ _ _ _ _ _ _ _ _ _ _ _ _ _ _ _ _ _ _ _ _ _ _ _ _ _ _ _ _ _ _ _ _ _ _ _ _ _ _ _ _ _ _ _ _ _ _ _ _ _ _ _ _ _ _ _ _ _ _ _ _ _ _ _ _ _ _ _ _ _ _ _ _ _ _ _ _ _ _ _ _ _ _ _ _ _ _ _ _ _ _ _ _ _ _ _ _ _ _ _ _ _ _ _ _ _ _ _ _ _ _ _ _ _ _ _ _ _ _ _ _ _ _ _ _ _ _ _ _ _ _ _ _ _ _ _ _ _ _ _ _ _ _ _ _ _ _ _ _ _ _ _ _ _ _ _ _ _ _ _ _ _ _ _ _ _ _ _ _ _ _ _ _ _ _ _ _ _ _ _ _ _ _ _ _ _ _ _ _ _ _ _ _ _ _ _ _ _ _ _ _ _ _ _ _ _ _ _ _ _ _ _ _ _ _ _ _ _ _
end Go.Proofs.Ybulkclns
