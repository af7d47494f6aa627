import Derived.Test.YbulkclnsC
namespace Go.Proofs.Ybulkclns
open Go.RowKit

theorem Acc.later {n nm kk B : Nat} {g : Nat → Int} {q : Nat → Nat} {M : Int → Option Nat} {mh gn : Int} {p : Nat} {W W' : World} (h : Acc n nm kk B g q M mh gn p W) (hb : Below W.heap.size W W') : Acc n nm kk B g q M mh gn p W' :=
  ⟨h.mm, h.hq, h.hg, h.hd, h.old, fun e => (h.new e).later hb, h.sz⟩

structure In52 (N FH LM kk n nm n0 B : Nat) (sp1 sp2 : Option Addr) (g : Nat → Int) (q : Nat → Nat) (M : Int → Option Nat) (o : Option Nat) (mh gn : Int) (rf : Bool) (f' : Nat → Int) (w W : World) : Prop where
  h15 : W.cell? ⟨N, 15, none⟩ = some (.slice (some ⟨FH, 0, none⟩) kk kk)
  hF : ∀ i, i < kk → W.cell? ⟨FH, i, none⟩ = some (.int .i64 (f' i))
  hR : Rows2 N LM n nm n0 sp1 sp2 g q M W
  hrf : rf = true → o = none ∧ nm = n ∧ ∀ i, i < n → M (g i) = some (q i)
  hac : rf = false → ∃ p, o = some p ∧ Acc n nm kk B g q M mh gn p W
  hbw : Below w.heap.size w W
theorem In52.later {N FH LM kk n nm n0 B : Nat} {sp1 sp2 : Option Addr} {g : Nat → Int} {q : Nat → Nat} {M : Int → Option Nat} {o : Option Nat} {mh gn : Int} {rf : Bool} {f' : Nat → Int} {w W W' : World} (h : In52 N FH LM kk n nm n0 B sp1 sp2 g q M o mh gn rf f' w W) (hb : Below W.heap.size W W') : In52 N FH LM kk n nm n0 B sp1 sp2 g q M o mh gn rf f' w W' :=
  ⟨cell_later hb h.h15, fun i hi => cell_later hb (h.hF i hi), h.hR.later hb, h.hrf, fun e => by obtain ⟨p, e1, e2⟩ := h.hac e; exact ⟨p, e1, e2.later hb⟩, h.hbw.trans (hb.mono h.hbw.size)⟩

def gnF (f : Nat → Int) (fi kk : Nat) (h mh : Int) : Int := if goneB f fi kk h mh then f fi else -1
def rowF (f : Nat → Int) (fi : Nat) (h mh : Int) : Nat → Int := if farB h mh then clF f fi mh else f

theorem shTo_spec (f : Nat → Int) (fi : Nat) (was : Int) : ∀ k, shTo f fi was k = true ↔ ∃ j, j < k ∧ ¬ j = fi ∧ f j = was
  | 0 => by simp [shTo]
  | k + 1 => by
    simp only [shTo, Bool.or_eq_true, Bool.and_eq_true, decide_eq_true_eq, shTo_spec f fi was k]
    constructor
    · rintro (⟨j, h1, h2, h3⟩ | ⟨h2, h3⟩)
      · exact ⟨j, by omega, h2, h3⟩
      · exact ⟨k, by omega, h2, h3⟩
    · rintro ⟨j, h1, h2, h3⟩
      by_cases e : j = k
      · subst e; exact Or.inr ⟨h2, h3⟩
      · exact Or.inl ⟨j, by omega, h2, h3⟩
theorem shTo_fnd (f : Nat → Int) (fi kk : Nat) (mh : Int) (hne : ¬ mh = f fi) : (fnd (put f fi mh) (f fi) kk).isSome = shTo f fi (f fi) kk := by
  cases hs : shTo f fi (f fi) kk with
  | true =>
    obtain ⟨j, h1, h2, h3⟩ := (shTo_spec f fi (f fi) kk).1 hs
    cases hf : fnd (put f fi mh) (f fi) kk with
    | some i => rfl
    | none => exact absurd (by rw [put_other _ _ _ h2, h3]) (fnd_none hf j h1)
  | false =>
    cases hf : fnd (put f fi mh) (f fi) kk with
    | none => rfl
    | some i =>
      obtain ⟨h1, h2⟩ := fnd_some hf
      by_cases e : i = fi
      · subst e; rw [put_same] at h2; exact absurd h2 hne
      · rw [put_other _ _ _ e] at h2
        have := (shTo_spec f fi (f fi) kk).2 ⟨i, h1, e, h2⟩
        rw [hs] at this; cases this

theorem setNew {W X : World} (k : Below W.heap.size W X) (b j : Nat) (hb : W.heap.size ≤ b) (v : Value) : Below W.heap.size W (X.setCell ⟨b, j, none⟩ v) := k.setCell (p := ⟨b, j, none⟩) hb v

set_option maxRecDepth 1000000 in
set_option maxHeartbeats 8000000 in
theorem mod_35 (F0 N FH LM kk fi n nm n0 sc1 sc2 B : Nat) (sp1 sp2 : Option Addr) (g : Nat → Int) (q : Nat → Nat) (M : Int → Option Nat) (o : Option Nat) (h mh : Int) (f : Nat → Int) (w W : World)
    (hC : Cells W F0 kk (fun i => .int .i64 (f i))) (hI : In52 N FH LM kk n nm n0 B sp1 sp2 g q M o mh (gnF f fi kk h mh) (refB f fi h mh) (rowF f fi h mh) w W) (hn : n ≤ 1024) (hk0 : 0 < kk) (hk : kk ≤ 6) (hfi : fi < kk) (hm0 : 0 ≤ mh) (hm1 : mh ≤ 100000) (hh0 : 0 ≤ h)
    (x0 x1 x2 x3 x4 x5 x6 x7 x8 x9 x10 x11 x12 x15 x19 x20 x21 x22 x25 x26 x27 x28 x29 x31 x33 x34 x35 x36 x37 x38 x39 x40 x41 x42 x43 x44 x45 x46 x47 x48 x49 x50 x51 x52 x53 x54 x55 x56 x57 x58 x59 x60 x61 x62 x63 x64 x65 x66 x67 x68 x69 x70 x71 x72 x73 x74 x75 x76 x77 x78 x79 x80 x81 x82 x83 x84 x85 x86 x87 x88 x89 x90 x91 x92 x93 x94 x95 x96 x97 x98 x99 x100 x101 x102 x103 x104 x105 x106 x107 x108 x109 x110 x111 x112 x113 x114 x115 x116 x117 x118 x119 x120 x121 x122 x123 x124 x125 x126 x127 x128 x129 x130 x131 x132 x133 x134 x135 x136 x137 x138 x139 x140 x141 x142 x143 x144 x145 x146 x147 x148 x149 x150 x151 x152 x153 x154 x155 x156 x157 x158 x159 x160 x161 x162 x163 x164 x165 x166 x167 x168 x169 x170 x171 x172 x173 x174 x175 x176 x177 x178 x179 x180 x181 x182 x183 x184 x185 x186 x187 x188 x189 x190 x191 x192 x193 x194 x195 x196 x197 x198 x199 x200 x201 x202 x203 x204 x205 x206 x207 x208 x209 x210 x211 x212 x213 x214 x215 x216 x217 x218 x219 x220 x221 x222 x223 x224 x225 x226 x227 x228 x229 x230 x231 x232 x233 x234 x235 x236 x237 x238 x239 x240 x241 x242 x243 x244 x245 x246 x247 x248 x249 x250 x251 x252 x253 x254 x255 x256 x257 x258 x259 x260 x261 x262 x263 x264 x265 x266 x267 x268 x269 x270 x271 x272 x273 x274 x275 x276 x277 x278 x279 x280 x281 x282 x283 x284 x285 x286 x287 x288 x289 x290 x291 x292 x293 x294 x295 x296 x297 x298 x299 x300 x301 x302 x303 x304 x305 x306 x307 x308 x309 x310 x311 x312 x313 x314 x315 x316 x317 x318 x319 x320 x321 x322 x323 x324 x325 x326 x327 x328 x329 x330 x331 x332 x333 x334 x335 : Value) :
    Code.wp Yba.prog (codeAt Yba.f3 35) (bodyPost Yba.prog Yba.f3 (fun e w' => e = .returned (.bool true) ∧ Below w.heap.size w w')) ⟨#[x0, x1, x2, x3, x4, x5, x6, x7, x8, x9, x10, x11, x12, .int .i64 kk, .int .i64 fi, x15, .int .i64 (h + 8), .int .i64 mh, .slice (some ⟨F0, 0, none⟩) kk kk, x19, x20, x21, x22, .slice sp1 n sc1, .slice sp2 n sc2, x25, x26, x27, x28, x29, .pointer (some ⟨N, 0, none⟩), x31, ptr o, x33, x34, x35, x36, x37, x38, x39, x40, x41, x42, x43, x44, x45, x46, x47, x48, x49, x50, x51, x52, x53, x54, x55, x56, x57, x58, x59, x60, x61, x62, x63, x64, x65, x66, x67, x68, x69, x70, x71, x72, x73, x74, x75, x76, x77, x78, x79, x80, x81, x82, x83, x84, x85, x86, x87, x88, x89, x90, x91, x92, x93, x94, x95, x96, x97, x98, x99, x100, x101, x102, x103, x104, x105, x106, x107, x108, x109, x110, x111, x112, x113, x114, x115, x116, x117, x118, x119, x120, x121, x122, x123, x124, x125, x126, x127, x128, x129, x130, x131, x132, x133, x134, x135, x136, x137, x138, x139, x140, x141, x142, x143, x144, x145, x146, x147, x148, x149, x150, x151, x152, x153, x154, x155, x156, x157, x158, x159, x160, x161, x162, x163, x164, x165, x166, x167, x168, x169, x170, x171, x172, x173, x174, x175, x176, x177, x178, x179, x180, x181, x182, x183, x184, x185, x186, x187, x188, x189, x190, x191, x192, x193, x194, x195, x196, x197, x198, x199, x200, x201, x202, x203, x204, x205, x206, x207, x208, x209, x210, x211, x212, x213, x214, x215, x216, x217, x218, x219, x220, x221, x222, x223, x224, x225, x226, x227, x228, x229, x230, x231, x232, x233, x234, x235, x236, x237, x238, x239, x240, x241, x242, x243, x244, x245, x246, x247, x248, x249, x250, x251, x252, x253, x254, x255, x256, x257, x258, x259, x260, x261, x262, x263, x264, x265, x266, x267, x268, x269, x270, x271, x272, x273, x274, x275, x276, x277, x278, x279, x280, x281, x282, x283, x284, x285, x286, x287, x288, x289, x290, x291, x292, x293, x294, x295, x296, x297, x298, x299, x300, x301, x302, x303, x304, x305, x306, x307, x308, x309, x310, x311, x312, x313, x314, x315, x316, x317, x318, x319, x320, x321, x322, x323, x324, x325, x326, x327, x328, x329, x330, x331, x332, x333, x334, x335], []⟩ W := by
  have HI : Hid (Cells W F0 kk (fun i => .int .i64 (f i)) ∧ In52 N FH LM kk n nm n0 B sp1 sp2 g q M o mh (gnF f fi kk h mh) (refB f fi h mh) (rowF f fi h mh) w W) := ⟨hC, hI⟩
  clear hC hI
  conv => arg 2; whnf
  conv => arg 4; dsimp only
  go_wp2_with fail
  refine (clone_any F0 kk _ W hk0 (by omega) HI.out.1 (fun i hi => rfl)).mono ?_
  rintro e W1 ⟨WB, c, rfl, hge, hCB, hb⟩
  have HB : Hid (Cells W1 WB kk (fun i => .int .i64 (f i)) ∧ Below W.heap.size W W1 ∧ W.heap.size ≤ WB) := ⟨hCB, hb, hge⟩
  clear hCB hb hge
  go_upto_if 152 with fail
  go_cut [34, 35, 36, 37, 38] from 152 to 190 (fun s34 s35 _ _ _ wx => ∃ (rf : Bool) (gn : Int) (f' : Nat → Int), s34 = .bool rf ∧ s35 = .int .i64 gn ∧ In52 N FH LM kk n nm n0 B sp1 sp2 g q M o mh gn rf f' w wx ∧ Cells wx WB kk (fun i => .int .i64 (f' i)))
  case rest =>
    obtain ⟨rf, gn, f', rfl, rfl, hT, hCB⟩ := hcut
    apply_assumption
    exact mod_52 N FH WB LM kk n nm n0 sc1 sc2 c B sp1 sp2 g q M o mh gn rf f' w wc hT.h15 hT.hF (fun i hi => hCB.cell i hi) hT.hR hn hk hm0 hm1 hT.hrf hT.hac hT.hbw _ _ _ _ _ _ _ _ _ _ _ _ _ _ _ _ _ _ _ _ _ _ _ _ _ _ _ _ _ _ _ _ _ _ _ _ _ _ _ _ _ _ _ _ _ _ _ _ _ _ _ _ _ _ _ _ _ _ _ _ _ _ _ _ _ _ _ _ _ _ _ _ _ _ _ _ _ _ _ _ _ _ _ _ _ _ _ _ _ _ _ _ _ _ _ _ _ _ _ _ _ _ _ _ _ _ _ _ _ _ _ _ _ _ _ _ _ _ _ _ _ _ _ _ _ _ _ _ _ _ _ _ _ _ _ _ _ _ _ _ _ _ _ _ _ _ _ _ _ _ _ _ _ _ _ _ _ _ _ _ _ _ _ _ _ _ _ _ _ _ _ _ _ _ _ _ _ _ _ _ _ _ _ _ _ _ _ _ _ _ _ _ _ _ _ _ _ _ _ _ _ _ _ _ _ _ _ _ _ _ _ _ _ _ _ _ _ _ _ _ _ _ _ _ _ _ _ _ _ _ _ _ _ _ _ _ _ _ _ _ _ _ _ _ _ _ _ _ _ _ _ _ _ _ _ _ _ _ _ _ _ _ _ _ _ _ _ _ _ _ _ _ _ _ _ _ _ _ _ _ _ _ _ _ _ _ _ _ _ _ _ _ _ _ _ _ _ _ _ _ _ _ _ _ _ _ _ _ _ _ _ _ _ _ _ _ _ _ _ _ _ _ _ _ _ _ _
  case first =>
  by_cases hfar : h + 8 < mh
  · have hff : farB h mh = true := by simp [farB, hfar]
    have j1 : (0 : Int) ≤ (fi : Int) := by omega
    have j2 : (fi : Int) < (kk : Int) := by omega
    have k1 : decide (h + 8 < mh) = true := by simp [hfar]
    have c0 := (HI.out.1.later HB.out.2.1).cell fi hfi
    by_cases hlt : mh < f fi
    · have e1 : refB f fi h mh = true := by simp [refB, hff, clKept, hlt]
      have e2 : gnF f fi kk h mh = -1 := by simp [gnF, goneB, clKept, hlt]
      have e3 : rowF f fi h mh = f := by simp [rowF, hff, clF, hlt]
      have hT := HI.out.2.later HB.out.2.1
      rw [e1, e2, e3] at hT
      have HT : Hid (In52 N FH LM kk n nm n0 B sp1 sp2 g q M o mh (-1) true f w W1) := hT
      have k2 : decide (mh < f fi) = true := by simp [hlt]
      clear e1 e2 e3 hT hff
      generalize f fi = was at *
      go_wp2_with fail
      go_meet
      exact ⟨_, _, _, rfl, rfl, HT.out, HB.out.1⟩
    · have hW := HB.out.1.free fi hfi
      have hcW := HB.out.1.cell fi hfi
      have e1 : refB f fi h mh = false := by simp [refB, clKept, hlt]
      have e3 : rowF f fi h mh = put f fi mh := by simp [rowF, hff, clF, hlt]
      have k2 : decide (mh < f fi) = false := by simp [hlt]
      have hbs := setNew HB.out.2.1 WB fi HB.out.2.2 (.int .i64 mh)
      have hT := HI.out.2.later hbs
      have hC0 := HI.out.1.later hbs
      have hCW := put_cells HB.out.1 hfi mh
      rw [e1, e3] at hT
      have HT : Hid (In52 N FH LM kk n nm n0 B sp1 sp2 g q M o mh (gnF f fi kk h mh) false (put f fi mh) w (W1.setCell ⟨WB, fi, none⟩ (.int .i64 mh)) ∧ Cells (W1.setCell ⟨WB, fi, none⟩ (.int .i64 mh)) F0 kk (fun i => .int .i64 (f i)) ∧ Cells (W1.setCell ⟨WB, fi, none⟩ (.int .i64 mh)) WB kk (fun i => .int .i64 (put f fi mh i))) := ⟨hT, hC0, hCW⟩
      clear e1 e3 hT hC0 hCW hbs
      by_cases heq : mh = f fi
      · have e2 : gnF f fi kk h mh = -1 := by
          have : goneB f fi kk h mh = false := by simp [goneB, clRel, heq]; intros; omega
          simp [gnF, this]
        rw [e2] at HT
        have HE : Hid (mh = f fi) := heq
        have k3 : (mh != f fi) = false := by simp [heq]
        clear e2 hff heq
        obtain ⟨was, hwas⟩ : ∃ x, x = f fi := ⟨_, rfl⟩
        rw [← hwas] at c0 hcW k2 k3 hlt
        clear hwas
        go_wp2_with fail
        go_meet
        exact ⟨_, _, _, rfl, rfl, HT.out.1, HT.out.2.2⟩
      · have hsf := shTo_fnd f fi kk mh heq
        have k3 : (mh != f fi) = true := by simp [heq]
        cases hsb : shTo f fi (f fi) kk with
        | true =>
          have e2 : gnF f fi kk h mh = -1 := by
            have : goneB f fi kk h mh = false := by simp [goneB, clRel, hlt, heq, hsf, hsb]; intros; omega
            simp [gnF, this]
          rw [e2] at HT
          have HS : Hid (shTo f fi (f fi) kk = true) := hsb
          clear e2 hff heq hsf hsb
          obtain ⟨was, hwas⟩ : ∃ x, x = f fi := ⟨_, rfl⟩
          rw [← hwas] at c0 hcW k2 k3 hlt HS
          clear hwas
          go_wp2_with fail
          refine mod_46 F0 kk fi f was _ HT.out.2.1 hk _ _ _ _ _ _ _ _ _ _ _ _ _ _ _ _ _ _ _ _ _ _ _ _ _ _ _ _ _ _ _ _ _ _ _ _ _ _ _ _ _ _ _ _ _ _ _ _ _ _ _ _ _ _ _ _ _ _ _ _ _ _ _ _ _ _ _ _ _ _ _ _ _ _ _ _ _ _ _ _ _ _ _ _ _ _ _ _ _ _ _ _ _ _ _ _ _ _ _ _ _ _ _ _ _ _ _ _ _ _ _ _ _ _ _ _ _ _ _ _ _ _ _ _ _ _ _ _ _ _ _ _ _ _ _ _ _ _ _ _ _ _ _ _ _ _ _ _ _ _ _ _ _ _ _ _ _ _ _ _ _ _ _ _ _ _ _ _ _ _ _ _ _ _ _ _ _ _ _ _ _ _ _ _ _ _ _ _ _ _ _ _ _ _ _ _ _ _ _ _ _ _ _ _ _ _ _ _ _ _ _ _ _ _ _ _ _ _ _ _ _ _ _ _ _ _ _ _ _ _ _ _ _ _ _ _ _ _ _ _ _ _ _ _ _ _ _ _ _ _ _ _ _ _ _ _ _ _ _ _ _ _ _ _ _ _ _ _ _ _ _ _ _ _ _ _ _ _ _ _ _ _ _ _ _ _ _ _ _ _ _ _ _ _ _ _ _ _ _ _ _ _ _ _ _ _ _ _ _ _ _ _ _ _ _ _ _ _ _ _ _ _ _ _ _ _ _ _ _ _ _ ?_
          rintro wc _ _ _ _ _ _ _ _ _ _ _ _ _ _ _ _ _ hwc
          subst hwc
          rw [HS.out]
          go_wp2_with fail
          go_meet
          exact ⟨_, _, _, rfl, rfl, HT.out.1, HT.out.2.2⟩
        | false =>
          by_cases hgt : h + 8 < f fi
          · have e2 : gnF f fi kk h mh = f fi := by
              have : goneB f fi kk h mh = true := by simp [goneB, clRel, clKept, hff, hlt, heq, hsf, hsb, hgt]
              simp [gnF, this]
            rw [e2] at HT
            have HS : Hid (shTo f fi (f fi) kk = false) := hsb
            have k4 : decide (h + 8 < f fi) = true := by simp [hgt]
            clear e2 hff heq hsf hsb
            obtain ⟨was, hwas⟩ : ∃ x, x = f fi := ⟨_, rfl⟩
            rw [← hwas] at c0 hcW k2 k3 k4 hlt hgt HS HT
            clear hwas
            go_wp2_with fail
            refine mod_46 F0 kk fi f was _ HT.out.2.1 hk _ _ _ _ _ _ _ _ _ _ _ _ _ _ _ _ _ _ _ _ _ _ _ _ _ _ _ _ _ _ _ _ _ _ _ _ _ _ _ _ _ _ _ _ _ _ _ _ _ _ _ _ _ _ _ _ _ _ _ _ _ _ _ _ _ _ _ _ _ _ _ _ _ _ _ _ _ _ _ _ _ _ _ _ _ _ _ _ _ _ _ _ _ _ _ _ _ _ _ _ _ _ _ _ _ _ _ _ _ _ _ _ _ _ _ _ _ _ _ _ _ _ _ _ _ _ _ _ _ _ _ _ _ _ _ _ _ _ _ _ _ _ _ _ _ _ _ _ _ _ _ _ _ _ _ _ _ _ _ _ _ _ _ _ _ _ _ _ _ _ _ _ _ _ _ _ _ _ _ _ _ _ _ _ _ _ _ _ _ _ _ _ _ _ _ _ _ _ _ _ _ _ _ _ _ _ _ _ _ _ _ _ _ _ _ _ _ _ _ _ _ _ _ _ _ _ _ _ _ _ _ _ _ _ _ _ _ _ _ _ _ _ _ _ _ _ _ _ _ _ _ _ _ _ _ _ _ _ _ _ _ _ _ _ _ _ _ _ _ _ _ _ _ _ _ _ _ _ _ _ _ _ _ _ _ _ _ _ _ _ _ _ _ _ _ _ _ _ _ _ _ _ _ _ _ _ _ _ _ _ _ _ _ _ _ _ _ _ _ _ _ _ _ _ _ _ _ _ _ _ _ ?_
            rintro wc _ _ _ _ _ _ _ _ _ _ _ _ _ _ _ _ _ hwc
            subst hwc
            rw [HS.out]
            go_wp2_with fail
            go_meet
            exact ⟨_, _, _, rfl, rfl, HT.out.1, HT.out.2.2⟩
          · have e2 : gnF f fi kk h mh = -1 := by
              have : goneB f fi kk h mh = false := by simp [goneB, clRel, hlt, heq, hsf, hsb]; intros; omega
              simp [gnF, this]
            rw [e2] at HT
            have HS : Hid (shTo f fi (f fi) kk = false) := hsb
            have k4 : decide (h + 8 < f fi) = false := by simp [hgt]
            clear e2 hff heq hsf hsb
            obtain ⟨was, hwas⟩ : ∃ x, x = f fi := ⟨_, rfl⟩
            rw [← hwas] at c0 hcW k2 k3 k4 hlt hgt HS
            clear hwas
            go_wp2_with fail
            refine mod_46 F0 kk fi f was _ HT.out.2.1 hk _ _ _ _ _ _ _ _ _ _ _ _ _ _ _ _ _ _ _ _ _ _ _ _ _ _ _ _ _ _ _ _ _ _ _ _ _ _ _ _ _ _ _ _ _ _ _ _ _ _ _ _ _ _ _ _ _ _ _ _ _ _ _ _ _ _ _ _ _ _ _ _ _ _ _ _ _ _ _ _ _ _ _ _ _ _ _ _ _ _ _ _ _ _ _ _ _ _ _ _ _ _ _ _ _ _ _ _ _ _ _ _ _ _ _ _ _ _ _ _ _ _ _ _ _ _ _ _ _ _ _ _ _ _ _ _ _ _ _ _ _ _ _ _ _ _ _ _ _ _ _ _ _ _ _ _ _ _ _ _ _ _ _ _ _ _ _ _ _ _ _ _ _ _ _ _ _ _ _ _ _ _ _ _ _ _ _ _ _ _ _ _ _ _ _ _ _ _ _ _ _ _ _ _ _ _ _ _ _ _ _ _ _ _ _ _ _ _ _ _ _ _ _ _ _ _ _ _ _ _ _ _ _ _ _ _ _ _ _ _ _ _ _ _ _ _ _ _ _ _ _ _ _ _ _ _ _ _ _ _ _ _ _ _ _ _ _ _ _ _ _ _ _ _ _ _ _ _ _ _ _ _ _ _ _ _ _ _ _ _ _ _ _ _ _ _ _ _ _ _ _ _ _ _ _ _ _ _ _ _ _ _ _ _ _ _ _ _ _ _ _ _ _ _ _ _ _ _ _ _ _ ?_
            rintro wc _ _ _ _ _ _ _ _ _ _ _ _ _ _ _ _ _ hwc
            subst hwc
            rw [HS.out]
            go_wp2_with fail
            go_meet
            exact ⟨_, _, _, rfl, rfl, HT.out.1, HT.out.2.2⟩
  · have hff : farB h mh = false := by simp [farB, hfar]
    have e1 : refB f fi h mh = false := by simp [refB, hff]
    have e2 : gnF f fi kk h mh = -1 := by simp [gnF, goneB, hff]
    have e3 : rowF f fi h mh = f := by simp [rowF, hff]
    have hT := HI.out.2.later HB.out.2.1
    rw [e1, e2, e3] at hT
    have HT : Hid (In52 N FH LM kk n nm n0 B sp1 sp2 g q M o mh (-1) false f w W1) := hT
    have k1 : decide (h + 8 < mh) = false := by simp [hfar]
    clear e1 e2 e3 hT hff
    go_wp2_with fail
    go_meet
    exact ⟨_, _, _, rfl, rfl, HT.out, HB.out.1⟩
end Go.Proofs.Ybulkclns
