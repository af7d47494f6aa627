import Derived.Test.YbulkcljkFmtRawAny
namespace Go.Proofs.YbulkcljkFmt
open Go.RowKit Go.Extern.Stop Go.Stop Go.Extern

set_option maxRecDepth 100000 in
theorem fr_long (p1 p2 : Option Addr) (n1 c1 n2 c2 : Nat) (ov : Bool) (f : ByteArray) (w : World) (hn : 4096 < n1 ∨ (n1 ≤ 4096 ∧ 4096 < n2)) (hc1 : n1 ≤ 9223372036854775807) (hc2 : n2 ≤ 9223372036854775807) :
    Calls Ybaf.prog 3 #[.slice p1 n1 c1, .slice p2 n2 c2, .bool ov, .string f] w fun e w' => e = .returned (.bool true) ∧ Below w.heap.size w w' := by
  rcases hn with hn | ⟨hn, hn'⟩
  · have hd : decide ((4096 : Int) < (n1 : Int)) = true := by simp; omega
    go_enter Ybaf.func3, Ybaf.ntmps3
    go_wp2
    go_ret
    exact ⟨rfl, Below.refl _ _⟩
  · have hd : decide ((4096 : Int) < (n1 : Int)) = false := by simp; omega
    go_enter Ybaf.func3, Ybaf.ntmps3
    go_wp2
    go_ret
    exact ⟨rfl, Below.refl _ _⟩

theorem src_any {w W : World} {p : Option Addr} {n c : Nat} {xs : List Int} (h : InB w p n c xs) (hb : Below w.heap.size w W) :
    ∀ ad, p = some ad → ∀ j u, (xs.map (Value.int .u8))[j]? = some u → W.cell? (ad.add j) = some u := by
  intro ad hp j u hj
  rw [List.getElem?_map] at hj
  obtain ⟨z, hz, rfl⟩ := Option.map_eq_some_iff.1 hj
  have hl := h.len
  have hjl : j < n := by have := (List.getElem?_eq_some_iff.1 hz).1; omega
  obtain ⟨b, o, hp', hc⟩ := h.cells.at (by omega)
  rw [hp'] at hp
  obtain rfl := Option.some.inj hp
  have e : (⟨b, o, none⟩ : Addr).add j = ⟨b, o + j, none⟩ := by simp [Addr.add]
  rw [e, cell_later hb (hc j hjl)]
  simp [List.getD, hz]

theorem ints_one (xs : List Int) : ∀ u ∈ xs.map (Value.int .u8), u.oneCell' = true := by
  intro v hv; simp at hv; obtain ⟨_, _, rfl⟩ := hv; rfl

theorem four_cells (w1 : World) (a b c d : Int) : ∀ j u, ([a, b, c, d].map (Value.int .u8))[j]? = some u → (w1.alloc (.cells #[.int .u8 a, .int .u8 b, .int .u8 c, .int .u8 d] 5)).cell? ((⟨w1.heap.size, 0, none⟩ : Addr).add j) = some u := by
  intro j u hj
  match j, hj with
  | 0, hj => simp at hj; subst hj; simp [Addr.add]
  | 1, hj => simp at hj; subst hj; simp [Addr.add]
  | 2, hj => simp at hj; subst hj; simp [Addr.add]
  | 3, hj => simp at hj; subst hj; simp [Addr.add]

theorem row_cells {W : World} {B n cap : Nat} {zs : List Int} (h : W.ownsRow B 5 1 (.slice (some ⟨B, 0, none⟩) n cap) n (zs.map (Value.int .u8))) :
    (∀ i, i < n → W.cell? ⟨B, i, none⟩ = some (.int .u8 (zs.getD i 0))) ∧ B < W.heap.size := by
  obtain ⟨hl, h | ⟨g, cap', cur, hv, _, hh, hn, _, hs, ht⟩⟩ := h
  · simp at h
  · simp at hv hl
    obtain ⟨rfl, rfl⟩ := hv
    refine ⟨fun i hi => ?_, ?_⟩
    · have e : (cur.toList.take (n * 1))[i]? = (zs.map (Value.int .u8))[i]? := by rw [ht]
      rw [List.getElem?_take_of_lt (by omega), List.getElem?_map, List.getElem?_eq_getElem (by omega : i < zs.length)] at e
      simp [World.cell?, hh, List.getD, (by omega : i < zs.length)]
      simpa using e
    · apply Decidable.byContradiction
      intro hc
      rw [Array.getElem?_eq_none (by omega)] at hh
      cases hh

def bytes4 (n : Int) : List Int := [n / 16777216, n / 65536, n / 256, n % 256]

theorem bytes4_facts (n : Int) (h0 : 0 ≤ n) (h1 : n ≤ 65535) : (0 ≤ n / 16777216 ∧ n / 16777216 ≤ 255) ∧ (0 ≤ n / 65536 ∧ n / 65536 ≤ 255) ∧ (0 ≤ n / 256 ∧ n / 256 ≤ 255) ∧ (0 ≤ n % 256 ∧ n % 256 ≤ 255) ∧ be4 (n / 16777216) (n / 65536) (n / 256) (n % 256) = n := by
  unfold be4; omega

set_option maxRecDepth 100000 in
set_option maxHeartbeats 400000 in
theorem fr_over (F : Interp) (p1 p2 : Option Addr) (n1 c1 n2 c2 : Nat) (xs ys : List Int) (f : ByteArray) (w : World) (hF : F.answers w.tape) (hf : f.size ≤ 4611686018427387904) (h1 : n1 ≤ 4096) (h2 : n2 ≤ 4096) (hx : InB w p1 n1 c1 xs) (hy : InB w p2 n2 c2 ys) :
    Calls Ybaf.prog 3 #[.slice p1 n1 c1, .slice p2 n2 c2, .bool true, .string f] w fun e w' => e = .returned (.bool true) ∧ Below w.heap.size w w' := by
  obtain ⟨i0, hi, hz0, hz1, hz2⟩ := info_parts Ybaf.info5
  have hq1 := q22e
  have hq2 := q28e
  have hd : decide ((4096 : Int) < (n1 : Int)) = false := by simp; omega
  go_enter Ybaf.func3, Ybaf.ntmps3
  go_wp2_with (first | (at_make; refine wpList_make_own _ rfl (.const (.int .i64 0)) (.tmp 37) 22 rfl w.heap.size 5 i0 (.int .u8 0) 1 Ybaf.underlying22 hi hz0 hz1 .i64 .i64 _ (4 + n1 + n2) rfl rfl (by omega) (by rw [hz2]; omega) (by unfold maxLen; omega) (Nat.le_refl _) ?_; intro w1 hown1 hgrow1; have hb1 := (Below.refl w.heap.size w).grown hgrow1 (Nat.le_refl _) (by simp)) | (at_builtin; refine wpList_append_fits _ rfl (.tmp 39) (.tmp 51) 22 rfl w.heap.size 5 i0 1 Ybaf.underlying22 hi hz1 w.heap.size 0 (4 + n1 + n2) [] rfl (hown1.alloc _) ⟨w1.heap.size, 0, none⟩ 4 4 _ rfl rfl (four_cells w1 _ _ _ _) (ints_one _) (by omega) ?_; intro w2 hown2 hgrow2; have hb2 := (hb1.alloc hb1.size _).grown hgrow2 (by have := hb1.size; simp; omega) (by simp)) | (at_builtin; refine wpList_append_fits_any _ rfl (.tmp 53) (.tmp 54) 22 rfl w.heap.size 5 i0 1 Ybaf.underlying22 hi hz1 w.heap.size 4 (4 + n1 + n2) _ rfl hown2 p1 n1 c1 (xs.map (Value.int .u8)) rfl (by simp [hx.len]) hx.nil (src_any hx hb2) (ints_one _) (by omega) ?_; intro w3 hown3 hgrow3; have hb3 := hb2.grown hgrow3 hb2.size (by simp)) | (at_builtin; refine wpList_append_fits_any _ rfl (.tmp 56) (.tmp 57) 22 rfl w.heap.size 5 i0 1 Ybaf.underlying22 hi hz1 w.heap.size (4 + n1) (4 + n1 + n2) _ rfl hown3 p2 n2 c2 (ys.map (Value.int .u8)) rfl (by simp [hy.len]) hy.nil (src_any hy hb3) (ints_one _) (by omega) ?_; intro w4 hown4 hgrow4; have hb4 := hb3.grown hgrow4 hb3.size (by simp); clear hgrow1 hgrow2 hgrow3 hgrow4 hown1 hown2 hown3 hb1 hb2 hb3) | fail)
  have hzs : ([] ++ List.map (Value.int IntKind.u8) [((n1 : Int) + (n2 : Int) + 1) / 16777216, ((n1 : Int) + (n2 : Int) + 1) / 65536, ((n1 : Int) + (n2 : Int) + 1) / 256, ((n1 : Int) + (n2 : Int) + 1) % 256] ++ List.map (Value.int IntKind.u8) xs ++ List.map (Value.int IntKind.u8) ys) = (bytes4 ((n1 : Int) + (n2 : Int) + 1) ++ xs ++ ys).map (Value.int .u8) := by simp [bytes4]
  rw [hzs] at hown4
  clear hzs
  obtain ⟨hcells, hlt⟩ := row_cells hown4
  clear hown4
  have hzl : (bytes4 ((n1 : Int) + (n2 : Int) + 1) ++ xs ++ ys).length = 4 + n1 + n2 := by simp [bytes4, hx.len, hy.len]; omega
  have e0 : (bytes4 ((n1 : Int) + (n2 : Int) + 1) ++ xs ++ ys).getD 0 0 = ((n1 : Int) + (n2 : Int) + 1) / 16777216 := by simp [bytes4]
  have e1 : (bytes4 ((n1 : Int) + (n2 : Int) + 1) ++ xs ++ ys).getD 1 0 = ((n1 : Int) + (n2 : Int) + 1) / 65536 := by simp [bytes4]
  have e2 : (bytes4 ((n1 : Int) + (n2 : Int) + 1) ++ xs ++ ys).getD 2 0 = ((n1 : Int) + (n2 : Int) + 1) / 256 := by simp [bytes4]
  have e3 : (bytes4 ((n1 : Int) + (n2 : Int) + 1) ++ xs ++ ys).getD 3 0 = ((n1 : Int) + (n2 : Int) + 1) % 256 := by simp [bytes4]
  generalize bytes4 ((n1 : Int) + (n2 : Int) + 1) ++ xs ++ ys = zs at hcells hzl e0 e1 e2 e3
  have y0 := hcells 0 (by omega)
  have y1 := hcells 1 (by omega)
  have y2 := hcells 2 (by omega)
  have y3 := hcells 3 (by omega)
  rw [e0] at y0
  rw [e1] at y1
  rw [e2] at y2
  rw [e3] at y3
  clear e0 e1 e2 e3
  have hbW : Below w4.heap.size w4 (w4.alloc (Obj.cells #[Value.slice (some { block := w.heap.size, off := 0 }) (4 + n1 + n2) (4 + n1 + n2), Value.nilIface, Value.slice none 0 0] 30)) := (Below.refl _ _).alloc (Nat.le_refl _) _
  obtain ⟨r0, r1, r2, r3, hbe⟩ := bytes4_facts ((n1 : Int) + (n2 : Int) + 1) (by omega) (by omega)
  refine (str_over F w4.heap.size w.heap.size 0 (4 + n1 + n2) (4 + n1 + n2) _ _ _ _ f _ hf ?_ (by omega) (Nat.le_refl _) (by omega) r0 r1 r2 r3 ?_ ?_ ?_ ?_ ?_ (by rw [hbe]; omega)).mono ?_
  · show F.answers w4.tape
    rw [hb4.tape]
    exact hF
  · exact cell_later hbW y0
  · exact cell_later hbW y1
  · exact cell_later hbW y2
  · exact cell_later hbW y3
  · exact dec_new w4 _
  rintro e w5 ⟨o2, ho2, rfl, q, hb5, hd5⟩
  obtain ⟨c0, c1, c2, f0, f1⟩ := hd5
  have hb6 := hbW.trans hb5
  have hb7 := hb4.trans (hb6.mono (Nat.le_of_lt hlt))
  clear y0 y1 y2 y3 r0 r1 r2 r3 hbe
  have hcW : ∀ i, i < 4 + n1 + n2 → w5.cell? ⟨w.heap.size, 0 + i, none⟩ = some (.int .u8 (zs.getD i 0)) := fun i hi => by rw [Nat.zero_add]; exact cell_later hb6 (hcells i hi)
  have H2 : Hid (∀ o', (4 + n1 + n2 - 4 = 0 ∨ o' = 0 + 4) → Lib.BytesIn w5 (some ⟨w.heap.size, o', none⟩) (4 + n1 + n2 - 4) ((zs.drop 4).take (4 + n1 + n2 - 4))) := fun o' h => bytes_cut hcW hzl (by omega) h
  have H1 : Hid (((zs.drop 4).take (4 + n1 + n2 - 4)).length = 4 + n1 + n2 - 4) := cut_len hzl (by omega)
  have HO : Hid (4 + n1 + n2 - 4 = 0 ∨ o2 = 0 + 4) := by rcases ho2 with h | h; exact Or.inl (by omega); exact Or.inr h
  have HB : Hid (Below w.heap.size w w5) := hb7
  clear hcW hcells hzl ho2 hb4 hb5 hb6 hb7 hbW hx hy
  obtain ⟨m, hm⟩ : ∃ m, m = n1 + n2 := ⟨_, rfl⟩
  have hm4 : (4 : Int) ≤ 4 + (n1 : Int) + (n2 : Int) := by omega
  clear hm
  by_cases hz : 0 < n1 + n2
  · have hne : ¬ (4 + n1 + n2 = 4) := by omega
    go_wp2_with fail
    go_quiet ((go_at_call 6; refine Calls.quiet_of_same (equal_any _ _ (4 + n1 + n2 - 4) _ _ _ _ H1.out ?_ ?_); exact H2.out _ HO.out; exact H2.out _ (Or.inr rfl)))
    go_wp2
    go_ret
    exact ⟨rfl, below_drewN HB.out _⟩
  · obtain rfl : n1 = 0 := by omega
    obtain rfl : n2 = 0 := by omega
    go_wp2_with fail
    go_quiet ((go_at_call 6; refine Calls.quiet_of_same (equal_any _ _ 0 _ _ [] _ rfl ?_ ?_); exact Lib.BytesIn.nil _ _ _; exact Lib.BytesIn.nil _ _ _))
    go_wp2
    go_ret
    exact ⟨rfl, below_drewN HB.out _⟩
set_option maxRecDepth 100000 in
set_option maxHeartbeats 400000 in
theorem fr_ok (p1 p2 : Option Addr) (n1 c1 n2 c2 : Nat) (xs ys : List Int) (f : ByteArray) (w : World) (hf : f.size ≤ 4611686018427387904) (h1 : n1 ≤ 4096) (h2 : n2 ≤ 4096) (hx : InB w p1 n1 c1 xs) (hy : InB w p2 n2 c2 ys) :
    Calls Ybaf.prog 3 #[.slice p1 n1 c1, .slice p2 n2 c2, .bool false, .string f] w fun e w' => e = .returned (.bool true) ∧ Below w.heap.size w w' := by
  obtain ⟨i0, hi, hz0, hz1, hz2⟩ := info_parts Ybaf.info5
  have hq1 := q22e
  have hq2 := q28e
  have hd : decide ((4096 : Int) < (n1 : Int)) = false := by simp; omega
  go_enter Ybaf.func3, Ybaf.ntmps3
  go_wp2_with (first | (at_make; refine wpList_make_own _ rfl (.const (.int .i64 0)) (.tmp 37) 22 rfl w.heap.size 5 i0 (.int .u8 0) 1 Ybaf.underlying22 hi hz0 hz1 .i64 .i64 _ (4 + n1 + n2) rfl rfl (by omega) (by rw [hz2]; omega) (by unfold maxLen; omega) (Nat.le_refl _) ?_; intro w1 hown1 hgrow1; have hb1 := (Below.refl w.heap.size w).grown hgrow1 (Nat.le_refl _) (by simp)) | (at_builtin; refine wpList_append_fits _ rfl (.tmp 39) (.tmp 51) 22 rfl w.heap.size 5 i0 1 Ybaf.underlying22 hi hz1 w.heap.size 0 (4 + n1 + n2) [] rfl (hown1.alloc _) ⟨w1.heap.size, 0, none⟩ 4 4 _ rfl rfl (four_cells w1 _ _ _ _) (ints_one _) (by omega) ?_; intro w2 hown2 hgrow2; have hb2 := (hb1.alloc hb1.size _).grown hgrow2 (by have := hb1.size; simp; omega) (by simp)) | (at_builtin; refine wpList_append_fits_any _ rfl (.tmp 53) (.tmp 54) 22 rfl w.heap.size 5 i0 1 Ybaf.underlying22 hi hz1 w.heap.size 4 (4 + n1 + n2) _ rfl hown2 p1 n1 c1 (xs.map (Value.int .u8)) rfl (by simp [hx.len]) hx.nil (src_any hx hb2) (ints_one _) (by omega) ?_; intro w3 hown3 hgrow3; have hb3 := hb2.grown hgrow3 hb2.size (by simp)) | (at_builtin; refine wpList_append_fits_any _ rfl (.tmp 56) (.tmp 57) 22 rfl w.heap.size 5 i0 1 Ybaf.underlying22 hi hz1 w.heap.size (4 + n1) (4 + n1 + n2) _ rfl hown3 p2 n2 c2 (ys.map (Value.int .u8)) rfl (by simp [hy.len]) hy.nil (src_any hy hb3) (ints_one _) (by omega) ?_; intro w4 hown4 hgrow4; have hb4 := hb3.grown hgrow4 hb3.size (by simp); clear hgrow1 hgrow2 hgrow3 hgrow4 hown1 hown2 hown3 hb1 hb2 hb3) | fail)
  have hzs : ([] ++ List.map (Value.int IntKind.u8) [((n1 : Int)) / 16777216, ((n1 : Int)) / 65536, ((n1 : Int)) / 256, ((n1 : Int)) % 256] ++ List.map (Value.int IntKind.u8) xs ++ List.map (Value.int IntKind.u8) ys) = (bytes4 (n1 : Int) ++ xs ++ ys).map (Value.int .u8) := by simp [bytes4]
  rw [hzs] at hown4
  clear hzs
  obtain ⟨hcells, hlt⟩ := row_cells hown4
  clear hown4
  have hzl : (bytes4 (n1 : Int) ++ xs ++ ys).length = 4 + n1 + n2 := by simp [bytes4, hx.len, hy.len]; omega
  have e0 : (bytes4 (n1 : Int) ++ xs ++ ys).getD 0 0 = (n1 : Int) / 16777216 := by simp [bytes4]
  have e1 : (bytes4 (n1 : Int) ++ xs ++ ys).getD 1 0 = (n1 : Int) / 65536 := by simp [bytes4]
  have e2 : (bytes4 (n1 : Int) ++ xs ++ ys).getD 2 0 = (n1 : Int) / 256 := by simp [bytes4]
  have e3 : (bytes4 (n1 : Int) ++ xs ++ ys).getD 3 0 = (n1 : Int) % 256 := by simp [bytes4]
  have g1 : (((bytes4 (n1 : Int) ++ xs ++ ys).drop 4).take n1) = xs := by simp [bytes4, ← hx.len]
  have g2 : (((bytes4 (n1 : Int) ++ xs ++ ys).drop (4 + n1)).take n2) = ys := by
    rw [← hx.len, ← hy.len, show bytes4 (xs.length : Int) ++ xs ++ ys = (bytes4 (xs.length : Int) ++ xs) ++ ys from rfl, List.drop_left' (by simp [bytes4]; omega), List.take_length]
  generalize bytes4 (n1 : Int) ++ xs ++ ys = zs at hcells hzl e0 e1 e2 e3 g1 g2
  have y0 := hcells 0 (by omega)
  have y1 := hcells 1 (by omega)
  have y2 := hcells 2 (by omega)
  have y3 := hcells 3 (by omega)
  rw [e0] at y0
  rw [e1] at y1
  rw [e2] at y2
  rw [e3] at y3
  clear e0 e1 e2 e3
  have hbW : Below w4.heap.size w4 (w4.alloc (Obj.cells #[Value.slice (some { block := w.heap.size, off := 0 }) (4 + n1 + n2) (4 + n1 + n2), Value.nilIface, Value.slice none 0 0] 30)) := (Below.refl _ _).alloc (Nat.le_refl _) _
  obtain ⟨r0, r1, r2, r3, hbe⟩ := bytes4_facts (n1 : Int) (by omega) (by omega)
  refine (str_ok w4.heap.size w.heap.size 0 (4 + n1 + n2) (4 + n1 + n2) n1 _ _ _ _ f _ hf (by omega) (Nat.le_refl _) (by omega) r0 r1 r2 r3 ?_ ?_ ?_ ?_ ?_ hbe (by omega)).mono ?_
  · exact cell_later hbW y0
  · exact cell_later hbW y1
  · exact cell_later hbW y2
  · exact cell_later hbW y3
  · exact dec_new w4 _
  rintro e w5 ⟨o1, k1, o2, l, k2, rfl, ho1, ho2, hl2, hb5, hd5⟩
  obtain rfl : l = n2 := by omega
  obtain ⟨c0, c1, c2, f0, f1⟩ := hd5
  have hb6 := hbW.trans hb5
  have hb7 := hb4.trans (hb6.mono (Nat.le_of_lt hlt))
  clear y0 y1 y2 y3 r0 r1 r2 r3 hbe
  have hcW : ∀ i, i < 4 + n1 + l → w5.cell? ⟨w.heap.size, 0 + i, none⟩ = some (.int .u8 (zs.getD i 0)) := fun i hi => by rw [Nat.zero_add]; exact cell_later hb6 (hcells i hi)
  have A1 : Lib.BytesIn w5 (some ⟨w.heap.size, o1, none⟩) n1 xs := by rw [← g1]; exact bytes_cut hcW hzl (by omega) ho1
  have A2 : Lib.BytesIn w5 (some ⟨w.heap.size, o2, none⟩) l ys := by rw [← g2]; exact bytes_cut hcW hzl (by omega) (by omega)
  have A3 := bytes_later hx.cells hb7
  have A4 := bytes_later hy.cells hb7
  have hxl := hx.len
  have hyl := hy.len
  have HH : Hid ((xs.length = n1 ∧ Lib.BytesIn w5 (some ⟨w.heap.size, o1, none⟩) n1 xs ∧ Lib.BytesIn w5 p1 n1 xs) ∧ (ys.length = l ∧ Lib.BytesIn w5 (some ⟨w.heap.size, o2, none⟩) l ys ∧ Lib.BytesIn w5 p2 l ys)) := ⟨⟨hxl, A1, A3⟩, ⟨hyl, A2, A4⟩⟩
  have HB : Hid (Below w.heap.size w w5) := hb7
  clear hcW hcells hzl ho1 ho2 hl2 hb4 hb5 hb6 hb7 hbW hx hy A1 A2 A3 A4 g1 g2 hxl hyl
  go_wp2_with fail
  refine (equal_any _ _ n1 _ _ xs _ HH.out.1.1 ?_ ?_).mono ?_
  · exact HH.out.1.2.1
  · exact HH.out.1.2.2
  rintro e w6 ⟨rfl, hw6⟩
  subst hw6
  go_wp2_with fail
  refine (equal_any _ _ l _ _ ys _ HH.out.2.1 ?_ ?_).mono ?_
  · exact HH.out.2.2.1
  · exact HH.out.2.2.2
  rintro e w6 ⟨rfl, hw6⟩
  subst hw6
  go_wp2
  go_ret
  exact ⟨rfl, HB.out⟩

theorem fr_any (F : Interp) (p1 p2 : Option Addr) (n1 c1 n2 c2 : Nat) (xs ys : List Int) (ov : Bool) (f : ByteArray) (w : World) (hF : F.answers w.tape) (hf : f.size ≤ 4611686018427387904) (hx : InB w p1 n1 c1 xs) (hy : InB w p2 n2 c2 ys) :
    Calls Ybaf.prog 3 #[.slice p1 n1 c1, .slice p2 n2 c2, .bool ov, .string f] w fun e w' => e = .returned (.bool true) ∧ Below w.heap.size w w' := by
  have a1 := hx.cap
  have a2 := hx.big
  have b1 := hy.cap
  have b2 := hy.big
  unfold maxLen at a2 b2
  by_cases h1 : 4096 < n1
  · exact fr_long p1 p2 n1 c1 n2 c2 ov f w (Or.inl h1) (by omega) (by omega)
  by_cases h2 : 4096 < n2
  · exact fr_long p1 p2 n1 c1 n2 c2 ov f w (Or.inr ⟨by omega, h2⟩) (by omega) (by omega)
  cases ov with
  | true => exact fr_over F p1 p2 n1 c1 n2 c2 xs ys f w hF hf (by omega) (by omega) hx hy
  | false => exact fr_ok p1 p2 n1 c1 n2 c2 xs ys f w hf (by omega) (by omega) hx hy
end Go.Proofs.YbulkcljkFmt
