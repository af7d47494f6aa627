import Derived.Test.YbulkclnsS
namespace Go.Proofs.Ybulkclns
open Go.RowKit

theorem Yba.info33u : (Yba.prog.info? 33).map (fun i => (i.zero, i.size, i.bytes)) = some (some (.pointer none), 1, 8) := by kernel_rfl

/-- a row of one-cell elements that the call has built -/
def RowG (w : World) (B e : Nat) (sv : Value) (n : Nat) (F : Nat → Value) : Prop := ∃ xs, w.ownsRow B e 1 sv n xs ∧ (∀ i, i < n → xs[i]? = some (F i)) ∧ (n = 0 → sv = .slice none 0 0)
theorem RowG.nil (w : World) (B e : Nat) (F : Nat → Value) : RowG w B e (.slice none 0 0) 0 F := ⟨[], World.ownsRow_nil w B e 1, fun i hi => by omega, fun _ => rfl⟩
theorem RowG.val {w : World} {B e n : Nat} {sv : Value} {F : Nat → Value} (h : RowG w B e sv n F) : ∃ sp sc, sv = .slice sp n sc := by
  obtain ⟨xs, h, _, _⟩ := h
  rcases h.2 with ⟨h1, h2⟩ | ⟨r, cap, cur, hv, _⟩
  · exact ⟨none, 0, by rw [h1, h2]⟩
  · exact ⟨_, _, hv⟩
theorem RowG.form {w : World} {B e n : Nat} {sv : Value} {F : Nat → Value} (h : RowG w B e sv n F) (hn : 0 < n) : ∃ R cap, sv = .slice (some ⟨R, 0, none⟩) n cap ∧ B ≤ R ∧ Cells w R n F := by
  obtain ⟨xs, h, hx, _⟩ := h
  obtain ⟨R, cap, hv, hb, hl⟩ := h.form hn
  subst hv
  have hC := Cells.owned h hl
  rw [Nat.mul_one] at hC
  refine ⟨R, cap, rfl, hb, hC.congr fun i hi => ?_⟩
  rw [List.getD, hx i hi]; rfl
theorem RowG.own {w : World} {B e n : Nat} {sv : Value} {F : Nat → Value} (h : RowG w B e sv n F) : ∀ k, sv.ownBlock = some k → B ≤ k ∧ k < w.heap.size := by
  obtain ⟨xs, h, _, _⟩ := h
  exact h.lt
theorem RowG.block {w w' : World} {B e n : Nat} {sv : Value} {F : Nat → Value} (h : RowG w B e sv n F) (hk : ∀ k, B ≤ k → k < w.heap.size → sv.ownBlock = some k → w'.heap[k]? = w.heap[k]?) : RowG w' B e sv n F := by
  obtain ⟨xs, h, hx, hq⟩ := h
  refine ⟨xs, ⟨h.1, ?_⟩, hx, hq⟩
  rcases h.2 with h1 | ⟨r, cap, cur, hv, hb, hh, h3⟩
  · exact Or.inl h1
  · refine Or.inr ⟨r, cap, cur, hv, hb, ?_, h3⟩
    rw [hk r hb (by
      rcases Nat.lt_or_ge r w.heap.size with hlt | hge
      · exact hlt
      · rw [Array.getElem?_eq_none hge] at hh; cases hh) (by rw [hv]; rfl)]
    exact hh
theorem RowG.later {w w' : World} {B e n : Nat} {sv : Value} {F : Nat → Value} (h : RowG w B e sv n F) (hb : Below w.heap.size w w') : RowG w' B e sv n F := h.block fun k _ hk _ => hb.block k hk
theorem RowG.keeps {S : Nat → Prop} {w w' : World} {B e n : Nat} {sv : Value} {F : Nat → Value} (h : RowG w B e sv n F) (k : Keeps S w w') (hS : ∀ b, B ≤ b → ¬ S b) : RowG w' B e sv n F := h.block fun j hB hj _ => k.block j hj (hS j hB)
theorem RowG.other {w w' : World} {B e n : Nat} {sv : Value} {F : Nat → Value} {row : Option Nat} (h : RowG w B e sv n F) (hg : w.grownBy w' row) (hne : ∀ k, sv.ownBlock = some k → row ≠ some k) : RowG w' B e sv n F := h.block fun j _ hj ho => hg.block j hj (fun e => hne j ho e.symm)

theorem RowG.grown {w : World} {B e n R cap : Nat} {xs : List Value} {F : Nat → Value} {v : Value} (h : w.ownsRow B e 1 (.slice (some ⟨R, 0, none⟩) (n + 1) cap) (n + 1) (xs ++ [v])) (hl : xs.length = n * 1) (hx : ∀ i, i < n → xs[i]? = some (F i)) : RowG w B e (.slice (some ⟨R, 0, none⟩) (n + 1) cap) (n + 1) (fun i => if i = n then v else F i) := by
  refine ⟨_, h, fun i hi => ?_, fun h0 => by omega⟩
  by_cases e : i = n
  · subst e
    rw [List.getElem?_append_right (by omega)]
    simp [hl]
  · rw [List.getElem?_append_left (by omega), hx i (by omega)]
    simp [e]

theorem RowG.congr {w : World} {B e n : Nat} {sv : Value} {F F' : Nat → Value} (h : RowG w B e sv n F) (he : ∀ i, i < n → F i = F' i) : RowG w B e sv n F' := by
  obtain ⟨xs, h, hx, hq⟩ := h
  exact ⟨xs, h, fun i hi => by rw [hx i hi, he i hi], hq⟩

theorem keeps_grownG {w w' : World} {B e n : Nat} {v : Value} {xs : List Value} (hown : w.ownsRow B e 1 v n xs) (hg : w.grownBy w' v.ownBlock) : Keeps (fun b => B ≤ b) w w' :=
  ⟨hg.os, hg.tape, hg.output, hg.size, fun k hk hs => hg.block k hk (fun e => hs ((hown.lt k e.symm).1))⟩
theorem keeps_low {S : Nat → Prop} {B : Nat} {a b c : World} (h : Keeps S a b) (k : Keeps (fun x => B ≤ x) b c) (hB : a.heap.size ≤ B) : Keeps S a c :=
  ⟨k.os.trans h.os, k.tape.trans h.tape, k.output.trans h.output, Nat.le_trans h.size k.size, fun i hi hs => (k.block i (Nat.lt_of_lt_of_le hi h.size) (fun e => by omega)).trans (h.block i hi hs)⟩

theorem news1 (w : World) (a : Value) (t : Nat) : ∀ j u, [a][j]? = some u → (w.alloc (.cells #[a] t)).cell? ((⟨w.heap.size, 0, none⟩ : Addr).add j) = some u := by
  intro j u hu
  have : j = 0 ∨ 1 ≤ j := by omega
  rcases this with rfl | h
  · simp at hu; subst hu
    exact World.cell?_alloc_at _ _ _ 0 rfl
  · rw [List.getElem?_eq_none (by simpa using h)] at hu; cases hu

/-- the map that the keys and the pointers say -/
def kmap (g : Nat → Int) (q : Nat → Nat) (n : Nat) (x : Int) : Option Nat := (fnd g x n).map q

/-- what the law's second loop has made -/
structure Mk2 (LM n n0 B : Nat) (s1 s2 : Value) (g : Nat → Int) (q : Nat → Nat) (W wr : World) : Prop where
  k : RowG wr B 2 s1 n (fun i => .int .i64 (g i))
  p : RowG wr B 33 s2 n (fun i => .pointer (some ⟨q i, 0, none⟩))
  ne : ∀ j, s1.ownBlock = some j → s2.ownBlock ≠ some j
  m : MapP wr LM (kmap g q n) n n0
  dis : ∀ i j, i < n → j < n → g i = g j → i = j
  rng : ∀ i, i < n → 0 ≤ g i ∧ g i ≤ 100000
  kp : Keeps (fun b => b = LM) W wr

theorem Mk2.later {LM n n0 B : Nat} {s1 s2 : Value} {g : Nat → Int} {q : Nat → Nat} {W wr w' : World} (h : Mk2 LM n n0 B s1 s2 g q W wr) (hb : Below wr.heap.size wr w') : Mk2 LM n n0 B s1 s2 g q W w' :=
  ⟨h.k.later hb, h.p.later hb, h.ne, h.m.later hb, h.dis, h.rng, h.kp.trans (Keeps.of_below hb)⟩

theorem kmap_put {g : Nat → Int} {q : Nat → Nat} {n : Nat} {x : Int} {p : Nat} (hn : fnd g x n = none) : ∀ y, putM (kmap g q n) x (some p) y = kmap (put g n x) (put q n p) (n + 1) y := by
  intro y
  have hs : ∀ m, m ≤ n → fnd (put g n x) y m = fnd g y m := fun m hm => by
    induction m with
    | zero => rfl
    | succ m ih => simp only [fnd, ih (by omega), put_other g n x (show ¬ m = n by omega)]
  unfold kmap putM
  simp only [fnd, hs n (Nat.le_refl _), put_same]
  by_cases e : y = x
  · subst e
    simp [hn, put]
  · cases hf : fnd g y n with
    | none => simp [e, show ¬ x = y from fun h => e h.symm]
    | some j =>
      have := (fnd_some hf).1
      simp [e, put, show ¬ j = n by omega]

set_option maxRecDepth 1000000 in
set_option maxHeartbeats 4000000 in
theorem mod_21 (VS VB LM kk n5 c5 : Nat) (p5 : Option Addr) (fb : Nat → Int) (h : Int) (w W : World) (hs : SlU w p5 n5 fb) (hb : Below w.heap.size w W) (hv : W.cell? ⟨VS, 0, none⟩ = some (.slice (some ⟨VB, 0, none⟩) kk kk)) (hVL : ¬ VS = LM) (hwL : w.heap.size ≤ LM) (hLW : LM < W.heap.size) (hM : MapP W LM (fun _ => none) 0 0) (h5 : n5 ≤ 1024) (hk : kk ≤ 6) (hh0 : 0 ≤ h) (hh : h ≤ 65535) (Q : Exit → Act → World → Prop)
    (x0 x1 x2 x3 x4 x5 x6 x7 x8 x9 x10 x11 x12 x13 x14 x16 x17 x18 x19 x20 x25 x26 x27 x28 x29 x30 x31 x32 x33 x34 x35 x36 x37 x38 x39 x40 x41 x42 x43 x44 x45 x46 x47 x48 x49 x50 x51 x52 x53 x54 x55 x56 x57 x58 x59 x60 x61 x62 x63 x64 x65 x66 x67 x68 x69 x70 x71 x72 x73 x74 x75 x76 x77 x78 x79 x80 x81 x82 x83 x84 x85 x86 x87 x88 x89 x90 x91 x92 x93 x94 x95 x96 x97 x98 x99 x103 x104 x105 x106 x107 x108 x109 x110 x111 x112 x113 x114 x115 x116 x117 x118 x119 x120 x121 x122 x123 x124 x125 x126 x127 x128 x129 x130 x131 x132 x133 x134 x135 x136 x137 x138 x139 x140 x141 x142 x143 x144 x145 x146 x147 x148 x149 x150 x151 x152 x153 x154 x155 x156 x157 x158 x159 x160 x161 x162 x163 x164 x165 x166 x167 x168 x169 x170 x171 x172 x173 x174 x175 x176 x177 x178 x179 x180 x181 x182 x183 x184 x185 x186 x187 x188 x189 x190 x191 x192 x193 x194 x195 x196 x197 x198 x199 x200 x201 x202 x203 x204 x205 x206 x207 x208 x209 x210 x211 x212 x213 x214 x215 x216 x217 x218 x219 x220 x221 x222 x223 x224 x225 x226 x227 x228 x229 x230 x231 x232 x233 x234 x235 x236 x237 x238 x239 x240 x241 x242 x243 x244 x245 x246 x247 x248 x249 x250 x251 x252 x253 x254 x255 x256 x257 x258 x259 x260 x261 x262 x263 x264 x265 x266 x267 x268 x269 x270 x271 x272 x273 x274 x275 x276 x277 x278 x279 x280 x281 x282 x283 x284 x285 x286 x287 x288 x289 x290 x291 x292 x293 x294 x295 x296 x297 x298 x299 x300 x301 x302 x303 x304 x305 x306 x307 x308 x309 x310 x311 x312 x313 x314 x315 x316 x317 x318 x319 x320 x321 x322 x323 x324 x325 x326 x327 x328 x329 x330 x331 x332 x333 x334 x335 : Value) (hK : ∀ (wc : World) (y23 y24 y26 y27 y28 y102 y103 y104 y105 y106 y107 y108 y109 y110 y111 y112 y113 y114 y115 y116 y117 y118 y119 y120 y121 y122 y123 y124 y125 y126 y127 y128 y129 : Value), (∃ n n0 g q sp1 sc1 sp2 sc2, y23 = .slice sp1 n sc1 ∧ y24 = .slice sp2 n sc2 ∧ n ≤ n0 ∧ n0 ≤ n5 ∧ Mk2 LM n n0 W.heap.size (.slice sp1 n sc1) (.slice sp2 n sc2) g q W wc) → Q .normal ⟨#[x0, x1, x2, x3, x4, x5, x6, x7, x8, x9, x10, x11, x12, x13, x14, .int .i64 h, x16, x17, x18, x19, x20, .pointer (some ⟨VS, 0, none⟩), .map (some LM), y23, y24, x25, y26, y27, y28, x29, x30, x31, x32, x33, x34, x35, x36, x37, x38, x39, x40, x41, x42, x43, x44, x45, x46, x47, x48, x49, x50, x51, x52, x53, x54, x55, x56, x57, x58, x59, x60, x61, x62, x63, x64, x65, x66, x67, x68, x69, x70, x71, x72, x73, x74, x75, x76, x77, x78, x79, x80, x81, x82, x83, x84, x85, x86, x87, x88, x89, x90, x91, x92, x93, x94, x95, x96, x97, x98, x99, .slice p5 n5 c5, .int .i64 n5, y102, y103, y104, y105, y106, y107, y108, y109, y110, y111, y112, y113, y114, y115, y116, y117, y118, y119, y120, y121, y122, y123, y124, y125, y126, y127, y128, y129, x130, x131, x132, x133, x134, x135, x136, x137, x138, x139, x140, x141, x142, x143, x144, x145, x146, x147, x148, x149, x150, x151, x152, x153, x154, x155, x156, x157, x158, x159, x160, x161, x162, x163, x164, x165, x166, x167, x168, x169, x170, x171, x172, x173, x174, x175, x176, x177, x178, x179, x180, x181, x182, x183, x184, x185, x186, x187, x188, x189, x190, x191, x192, x193, x194, x195, x196, x197, x198, x199, x200, x201, x202, x203, x204, x205, x206, x207, x208, x209, x210, x211, x212, x213, x214, x215, x216, x217, x218, x219, x220, x221, x222, x223, x224, x225, x226, x227, x228, x229, x230, x231, x232, x233, x234, x235, x236, x237, x238, x239, x240, x241, x242, x243, x244, x245, x246, x247, x248, x249, x250, x251, x252, x253, x254, x255, x256, x257, x258, x259, x260, x261, x262, x263, x264, x265, x266, x267, x268, x269, x270, x271, x272, x273, x274, x275, x276, x277, x278, x279, x280, x281, x282, x283, x284, x285, x286, x287, x288, x289, x290, x291, x292, x293, x294, x295, x296, x297, x298, x299, x300, x301, x302, x303, x304, x305, x306, x307, x308, x309, x310, x311, x312, x313, x314, x315, x316, x317, x318, x319, x320, x321, x322, x323, x324, x325, x326, x327, x328, x329, x330, x331, x332, x333, x334, x335], []⟩ wc) :
    Code.wp Yba.prog (loopIn (codeAt Yba.f3 21)) (Exit.inBlock (blkNo (codeAt Yba.f3 21)) Q) ⟨#[x0, x1, x2, x3, x4, x5, x6, x7, x8, x9, x10, x11, x12, x13, x14, .int .i64 h, x16, x17, x18, x19, x20, .pointer (some ⟨VS, 0, none⟩), .map (some LM), .slice none 0 0, .slice none 0 0, x25, x26, x27, x28, x29, x30, x31, x32, x33, x34, x35, x36, x37, x38, x39, x40, x41, x42, x43, x44, x45, x46, x47, x48, x49, x50, x51, x52, x53, x54, x55, x56, x57, x58, x59, x60, x61, x62, x63, x64, x65, x66, x67, x68, x69, x70, x71, x72, x73, x74, x75, x76, x77, x78, x79, x80, x81, x82, x83, x84, x85, x86, x87, x88, x89, x90, x91, x92, x93, x94, x95, x96, x97, x98, x99, .slice p5 n5 c5, .int .i64 n5, .int .i64 0, x103, x104, x105, x106, x107, x108, x109, x110, x111, x112, x113, x114, x115, x116, x117, x118, x119, x120, x121, x122, x123, x124, x125, x126, x127, x128, x129, x130, x131, x132, x133, x134, x135, x136, x137, x138, x139, x140, x141, x142, x143, x144, x145, x146, x147, x148, x149, x150, x151, x152, x153, x154, x155, x156, x157, x158, x159, x160, x161, x162, x163, x164, x165, x166, x167, x168, x169, x170, x171, x172, x173, x174, x175, x176, x177, x178, x179, x180, x181, x182, x183, x184, x185, x186, x187, x188, x189, x190, x191, x192, x193, x194, x195, x196, x197, x198, x199, x200, x201, x202, x203, x204, x205, x206, x207, x208, x209, x210, x211, x212, x213, x214, x215, x216, x217, x218, x219, x220, x221, x222, x223, x224, x225, x226, x227, x228, x229, x230, x231, x232, x233, x234, x235, x236, x237, x238, x239, x240, x241, x242, x243, x244, x245, x246, x247, x248, x249, x250, x251, x252, x253, x254, x255, x256, x257, x258, x259, x260, x261, x262, x263, x264, x265, x266, x267, x268, x269, x270, x271, x272, x273, x274, x275, x276, x277, x278, x279, x280, x281, x282, x283, x284, x285, x286, x287, x288, x289, x290, x291, x292, x293, x294, x295, x296, x297, x298, x299, x300, x301, x302, x303, x304, x305, x306, x307, x308, x309, x310, x311, x312, x313, x314, x315, x316, x317, x318, x319, x320, x321, x322, x323, x324, x325, x326, x327, x328, x329, x330, x331, x332, x333, x334, x335], []⟩ W := by
  have HK : Hid (∀ (wc : World) (y23 y24 y26 y27 y28 y102 y103 y104 y105 y106 y107 y108 y109 y110 y111 y112 y113 y114 y115 y116 y117 y118 y119 y120 y121 y122 y123 y124 y125 y126 y127 y128 y129 : Value), (∃ n n0 g q sp1 sc1 sp2 sc2, y23 = .slice sp1 n sc1 ∧ y24 = .slice sp2 n sc2 ∧ n ≤ n0 ∧ n0 ≤ n5 ∧ Mk2 LM n n0 W.heap.size (.slice sp1 n sc1) (.slice sp2 n sc2) g q W wc) → Q .normal ⟨#[x0, x1, x2, x3, x4, x5, x6, x7, x8, x9, x10, x11, x12, x13, x14, .int .i64 h, x16, x17, x18, x19, x20, .pointer (some ⟨VS, 0, none⟩), .map (some LM), y23, y24, x25, y26, y27, y28, x29, x30, x31, x32, x33, x34, x35, x36, x37, x38, x39, x40, x41, x42, x43, x44, x45, x46, x47, x48, x49, x50, x51, x52, x53, x54, x55, x56, x57, x58, x59, x60, x61, x62, x63, x64, x65, x66, x67, x68, x69, x70, x71, x72, x73, x74, x75, x76, x77, x78, x79, x80, x81, x82, x83, x84, x85, x86, x87, x88, x89, x90, x91, x92, x93, x94, x95, x96, x97, x98, x99, .slice p5 n5 c5, .int .i64 n5, y102, y103, y104, y105, y106, y107, y108, y109, y110, y111, y112, y113, y114, y115, y116, y117, y118, y119, y120, y121, y122, y123, y124, y125, y126, y127, y128, y129, x130, x131, x132, x133, x134, x135, x136, x137, x138, x139, x140, x141, x142, x143, x144, x145, x146, x147, x148, x149, x150, x151, x152, x153, x154, x155, x156, x157, x158, x159, x160, x161, x162, x163, x164, x165, x166, x167, x168, x169, x170, x171, x172, x173, x174, x175, x176, x177, x178, x179, x180, x181, x182, x183, x184, x185, x186, x187, x188, x189, x190, x191, x192, x193, x194, x195, x196, x197, x198, x199, x200, x201, x202, x203, x204, x205, x206, x207, x208, x209, x210, x211, x212, x213, x214, x215, x216, x217, x218, x219, x220, x221, x222, x223, x224, x225, x226, x227, x228, x229, x230, x231, x232, x233, x234, x235, x236, x237, x238, x239, x240, x241, x242, x243, x244, x245, x246, x247, x248, x249, x250, x251, x252, x253, x254, x255, x256, x257, x258, x259, x260, x261, x262, x263, x264, x265, x266, x267, x268, x269, x270, x271, x272, x273, x274, x275, x276, x277, x278, x279, x280, x281, x282, x283, x284, x285, x286, x287, x288, x289, x290, x291, x292, x293, x294, x295, x296, x297, x298, x299, x300, x301, x302, x303, x304, x305, x306, x307, x308, x309, x310, x311, x312, x313, x314, x315, x316, x317, x318, x319, x320, x321, x322, x323, x324, x325, x326, x327, x328, x329, x330, x331, x332, x333, x334, x335], []⟩ wc) := hK
  clear hK
  conv => arg 2; whnf
  conv => arg 3; arg 1; whnf
  conv => arg 4; dsimp only
  obtain ⟨i2, hi2, y20, y21, y22⟩ := info_parts Yba.info2c
  obtain ⟨i33, hi33, y330, y331, y332⟩ := info_parts Yba.info33u
  have HI : Hid (SlU w p5 n5 fb ∧ Below w.heap.size w W ∧ W.cell? ⟨VS, 0, none⟩ = some (.slice (some ⟨VB, 0, none⟩) kk kk)) := ⟨hs, hb, hv⟩
  have HM0 : Hid (MapP W LM (kmap (fun _ => 0) (fun _ => 0) 0) 0 0) := hM.congr (fun x => rfl)
  clear hs hb hv hM
  go_loopw [23, 24, 102] (fun s1 s2 x wr => ∃ k : Nat, k ≤ n5 ∧ x = .int .i64 k ∧ ∃ n n0 g q sp1 sc1 sp2 sc2, s1 = .slice sp1 n sc1 ∧ s2 = .slice sp2 n sc2 ∧ n ≤ n0 ∧ n0 ≤ k ∧ Mk2 LM n n0 W.heap.size (.slice sp1 n sc1) (.slice sp2 n sc2) g q W wr) (fun _ _ x _ => n5 - (intOf x).toNat)
  case atStart => exact ⟨0, Nat.zero_le _, rfl, 0, 0, fun _ => 0, fun _ => 0, none, 0, none, 0, rfl, rfl, Nat.le_refl _, Nat.le_refl _, RowG.nil _ _ _ _, RowG.nil _ _ _ _, (fun j hj => by cases hj), HM0.out, (fun i j hi => by omega), (fun i hi => by omega), Keeps.refl _ _⟩
  case round =>
    clear HM0
    obtain ⟨k, hk', rfl, n, n0, g, q, sp1, sc1, sp2, sc2, rfl, rfl, hn, hn0, hM⟩ := hrel
    by_cases hlt : k < n5
    · have hbw : Below w.heap.size w wr := HI.out.2.1.trans (hM.kp.below HI.out.2.1.size (fun b e => by rw [e]; exact hwL))
      obtain ⟨b, o, e, hc⟩ := HI.out.1.pos (by omega)
      cases e
      have c0 := cell_later hbw (hc k hlt)
      have hr := HI.out.1.rng k
      have hRI : RowI wr sp1 n g := ⟨fun hp => by
        obtain ⟨R, cap, hv, _, hC⟩ := hM.k.form hp
        cases hv
        exact ⟨R, rfl, fun i hi => hC.cell i hi⟩⟩
      have HM : Hid (Mk2 LM n n0 W.heap.size (.slice sp1 n sc1) (.slice sp2 n sc2) g q W wr) := hM
      have i1 : (0 : Int) ≤ (k : Int) := by omega
      have i2' : (k : Int) < (n5 : Int) := by omega
      clear hc hbw hM
      generalize fb k = v at *
      have hv32 : 0 ≤ v % 32 ∧ v % 32 ≤ 31 := by omega
      go_upto_region 24 with fail
      generalize hky : h + 1 + v % 32 = ky at *
      have hk0 : 0 ≤ ky := by omega
      have hk1 : ky ≤ 100000 := by omega
      clear hky c0
      go_wp2_with fail
      refine (cont_any sp1 n sc1 g ky wr hRI (by omega)).mono ?_
      rintro e w' ⟨rfl, rfl⟩
      clear hRI
      cases hf : fnd g ky n with
      | some j =>
        simp only [Option.isSome_some]
        clear hf
        go_wp2_with fail
        go_roundw
        case rel => exact ⟨k + 1, by omega, by go_num, n, n0, g, q, sp1, sc1, sp2, sc2, rfl, rfl, hn, by omega, HM.out⟩
        case measure => simp [intOf]; omega
      | none =>
        simp only [Option.isSome_none]
        have HF : Hid (fnd g ky n = none) := hf
        clear hf
        have hvw := HM.out.kp.cell (p := ⟨VS, 0, none⟩) hVL HI.out.2.2
        go_wp2_with fail
        refine (nhs_any VS VB kk w' hvw hk).mono ?_
        rintro e w3 ⟨HS, rfl, hNew, hb3⟩
        have HM3 : Hid (Mk2 LM n n0 W.heap.size (.slice sp1 n sc1) (.slice sp2 n sc2) g q W w3) := HM.out.later hb3
        have hWw : W.heap.size ≤ w3.heap.size := HM3.out.kp.size
        clear hNew hb3 hvw HM
        go_upto_region 26 with fail
        have hmx : n + 1 ≤ maxLen := by unfold maxLen; omega
        have hby : (n + 1) * 8 ≤ 140737488355328 := by omega
        go_cut [23] from 118 to 121 (fun s23 wx => ∃ R cap, s23 = .slice (some ⟨R, 0, none⟩) (n + 1) cap ∧ RowG wx W.heap.size 2 (.slice (some ⟨R, 0, none⟩) (n + 1) cap) (n + 1) (fun i => .int .i64 (put g n ky i)) ∧ RowG wx W.heap.size 33 (.slice sp2 n sc2) n (fun i => .pointer (some ⟨q i, 0, none⟩)) ∧ (Value.slice sp2 n sc2).ownBlock ≠ some R ∧ MapP wx LM (kmap g q n) n n0 ∧ Keeps (fun b => b = LM) W wx)
        case first =>
          have hbU : Below w3.heap.size w3 (w3.alloc (.cells #[.int .i64 ky] 2)) := bl_new (Below.refl _ _) _
          obtain ⟨xs, hown, hxs, _⟩ := HM3.out.k.later hbU
          have HX : Hid (xs.length = n * 1 ∧ ∀ i, i < n → xs[i]? = some (.int .i64 (g i))) := ⟨hown.1, hxs⟩
          have HOwn : Hid ((w3.alloc (.cells #[.int .i64 ky] 2)).ownsRow W.heap.size 2 1 (.slice sp1 n sc1) n xs) := hown
          have HN : Hid (∀ j u, [Value.int .i64 ky][j]? = some u → (w3.alloc (.cells #[.int .i64 ky] 2)).cell? ((⟨w3.heap.size, 0, none⟩ : Addr).add j) = some u) := news1 w3 _ 2
          have HOne : Hid (∀ u ∈ [Value.int .i64 ky], u.oneCell' = true) := by
            intro u hu
            simp at hu
            rw [hu]; rfl
          clear hown hxs
          go_wp2_with (first | (at_builtin; refine wpList_append_lies _ rfl (.tmp 118) (.tmp 120) 24 rfl W.heap.size 2 i2 (.int .i64 0) 1 8 Yba.underlying24 hi2 y20 y21 y22 rfl (by decide) (.slice sp1 n sc1) n xs rfl HOwn.out ⟨w3.heap.size, 0, none⟩ 1 1 [.int .i64 ky] rfl rfl HN.out HOne.out (by decide) hmx hby (by simp; omega) (w3.heap.size + 1) (by simp) ?_; intro R2 cap2 w4 hown2 hgrow2 hlies hg2) | fail)
          go_meet
          have hpo := HM3.out.p.own
          have hne := HM3.out.ne
          have hkg := keeps_grownG HOwn.out hgrow2
          refine ⟨R2, cap2, rfl, (RowG.grown hown2 HX.out.1 HX.out.2).congr (fun i hi => ?_), (HM3.out.p.later hbU).other hgrow2 (fun j hj e => hne j e hj), fun e => ?_, (HM3.out.m.later hbU).keeps hkg (by omega), keeps_low (HM3.out.kp.trans (Keeps.of_below hbU)) hkg (Nat.le_refl _)⟩
          · by_cases e : i = n
            · simp [e, put]
            · simp [e, put]
          · rcases hlies with hl | hl
            · exact hne R2 hl e
            · have := (hpo R2 e).2; omega
        case rest =>
        obtain ⟨R1, cap1, rfl, hR1, hP1, hne1, hM1, hK1⟩ := hcut
        obtain ⟨w4, rfl⟩ : ∃ x, x = wc := ⟨wc, rfl⟩
        have H4 : Hid (RowG w4 W.heap.size 2 (.slice (some ⟨R1, 0, none⟩) (n + 1) cap1) (n + 1) (fun i => .int .i64 (put g n ky i)) ∧ RowG w4 W.heap.size 33 (.slice sp2 n sc2) n (fun i => .pointer (some ⟨q i, 0, none⟩)) ∧ (Value.slice sp2 n sc2).ownBlock ≠ some R1 ∧ MapP w4 LM (kmap g q n) n n0 ∧ Keeps (fun b => b = LM) W w4) := ⟨hR1, hP1, hne1, hM1, hK1⟩
        have hWw4 : W.heap.size ≤ w4.heap.size := hK1.size
        clear hR1 hP1 hne1 hM1 hK1
        apply_assumption
        go_upto_region 27 with fail
        go_cut [24] from 122 to 125 (fun s24 wx => ∃ R cap, s24 = .slice (some ⟨R, 0, none⟩) (n + 1) cap ∧ RowG wx W.heap.size 2 (.slice (some ⟨R1, 0, none⟩) (n + 1) cap1) (n + 1) (fun i => .int .i64 (put g n ky i)) ∧ RowG wx W.heap.size 33 (.slice (some ⟨R, 0, none⟩) (n + 1) cap) (n + 1) (fun i => .pointer (some ⟨put q n HS i, 0, none⟩)) ∧ ¬ R1 = R ∧ MapP wx LM (kmap g q n) n n0 ∧ Keeps (fun b => b = LM) W wx)
        case first =>
          have hbU : Below w4.heap.size w4 (w4.alloc (.cells #[.pointer (some ⟨HS, 0, none⟩)] 33)) := bl_new (Below.refl _ _) _
          obtain ⟨xs, hown, hxs, _⟩ := H4.out.2.1.later hbU
          have HX : Hid (xs.length = n * 1 ∧ ∀ i, i < n → xs[i]? = some (.pointer (some ⟨q i, 0, none⟩))) := ⟨hown.1, hxs⟩
          have HOwn : Hid ((w4.alloc (.cells #[.pointer (some ⟨HS, 0, none⟩)] 33)).ownsRow W.heap.size 33 1 (.slice sp2 n sc2) n xs) := hown
          have HN : Hid (∀ j u, [Value.pointer (some ⟨HS, 0, none⟩)][j]? = some u → (w4.alloc (.cells #[.pointer (some ⟨HS, 0, none⟩)] 33)).cell? ((⟨w4.heap.size, 0, none⟩ : Addr).add j) = some u) := news1 w4 _ 33
          have HOne : Hid (∀ u ∈ [Value.pointer (some ⟨HS, 0, none⟩)], u.oneCell' = true) := by
            intro u hu
            simp at hu
            rw [hu]; rfl
          clear hown hxs
          go_wp2_with (first | (at_builtin; refine wpList_append_lies _ rfl (.tmp 122) (.tmp 124) 31 rfl W.heap.size 33 i33 (.pointer none) 1 8 Yba.underlying31 hi33 y330 y331 y332 rfl (by decide) (.slice sp2 n sc2) n xs rfl HOwn.out ⟨w4.heap.size, 0, none⟩ 1 1 [.pointer (some ⟨HS, 0, none⟩)] rfl rfl HN.out HOne.out (by decide) hmx hby (by simp; omega) (w4.heap.size + 1) (by simp) ?_; intro R2 cap2 w5 hown2 hgrow2 hlies hg2) | fail)
          go_meet
          have hko := H4.out.1.own
          have hne := H4.out.2.2.1
          have hkg := keeps_grownG HOwn.out hgrow2
          refine ⟨R2, cap2, rfl, (H4.out.1.later hbU).other hgrow2 (fun j hj e => ?_), (RowG.grown hown2 HX.out.1 HX.out.2).congr (fun i hi => ?_), fun e => ?_, (H4.out.2.2.2.1.later hbU).keeps hkg (by omega), keeps_low (H4.out.2.2.2.2.trans (Keeps.of_below hbU)) hkg (Nat.le_refl _)⟩
          · simp [Value.ownBlock] at hj
            subst hj
            exact hne e
          · by_cases e : i = n
            · simp [e, put]
            · simp [e, put]
          · subst e
            rcases hlies with hl | hl
            · exact hne hl
            · have := (hko R1 rfl).2; omega
        case rest =>
        obtain ⟨R2, cap2, rfl, hR2, hP2, hne2, hM2, hK2⟩ := hcut
        obtain ⟨w5, rfl⟩ : ∃ x, x = wc := ⟨wc, rfl⟩
        obtain ⟨w6, hrun, hM6, hg6⟩ := hM2.store (wf64 hk0 (by omega)) HS (by unfold maxLen; omega)
        have H6 : Hid (RowG w5 W.heap.size 2 (.slice (some ⟨R1, 0, none⟩) (n + 1) cap1) (n + 1) (fun i => .int .i64 (put g n ky i)) ∧ RowG w5 W.heap.size 33 (.slice (some ⟨R2, 0, none⟩) (n + 1) cap2) (n + 1) (fun i => .pointer (some ⟨put q n HS i, 0, none⟩)) ∧ ¬ R1 = R2 ∧ MapP w6 LM (putM (kmap g q n) ky (some HS)) (if (kmap g q n ky).isSome then n else n + 1) (n0 + 1) ∧ w5.grownBy w6 (some LM) ∧ Keeps (fun b => b = LM) W w5) := ⟨hR2, hP2, hne2, hM6, hg6, hK2⟩
        clear hR2 hP2 hne2 hM2 hK2 hM6 hg6
        apply_assumption
        go_wp2_with fail
        go_roundw
        case rel =>
          obtain ⟨a1, a2, a3, a4, a5, a6⟩ := H6.out
          have hkm := keeps_map a5
          have hm3 := HM3.out
          have e0 : kmap g q n ky = none := by simp [kmap, HF.out]
          refine ⟨k + 1, by omega, by go_num, n + 1, n0 + 1, put g n ky, put q n HS, some ⟨R1, 0, none⟩, cap1, some ⟨R2, 0, none⟩, cap2, rfl, rfl, by omega, by omega, a1.keeps hkm (fun b hb e => by omega), a2.keeps hkm (fun b hb e => by omega), (fun j hj e => ?_), ?_, (fun i j hi hj e => ?_), (fun i hi => ?_), a6.trans hkm⟩
          · simp [Value.ownBlock] at hj e
            omega
          · have := a4.congr (kmap_put HF.out)
            rw [e0] at this
            exact this
          · by_cases e1 : i = n
            · by_cases e2 : j = n
              · omega
              · rw [e1, put_same, put_other _ _ _ e2] at e
                exact absurd e.symm (fnd_none HF.out j (by omega))
            · by_cases e2 : j = n
              · rw [e2, put_same, put_other _ _ _ e1] at e
                exact absurd e (fnd_none HF.out i (by omega))
              · rw [put_other _ _ _ e1, put_other _ _ _ e2] at e
                exact hm3.dis i j (by omega) (by omega) e
          · by_cases e1 : i = n
            · rw [e1, put_same]; exact ⟨hk0, hk1⟩
            · rw [put_other _ _ _ e1]; exact hm3.rng i (by omega)
        case measure => simp [intOf]; omega
    · obtain rfl : n5 = k := by omega
      go_wp2_with fail
      exact HK.out _ _ _ _ _ _ _ _ _ _ _ _ _ _ _ _ _ _ _ _ _ _ _ _ _ _ _ _ _ _ _ _ _ _ ⟨n, n0, g, q, sp1, sc1, sp2, sc2, rfl, rfl, hn, hn0, hM⟩

end Go.Proofs.Ybulkclns
