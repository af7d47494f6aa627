import Derived.Test.YbulkcljkFmtRaw
namespace Go.Proofs.YbulkcljkFmt
open Go.RowKit Go.Extern.Stop Go.Stop Go.Extern

set_option maxRecDepth 100000 in
set_option maxHeartbeats 800000 in
theorem raw_ok (b o n c : Nat) (xs : List Int) (b0 b1 b2 b3 : Int) (f : ByteArray) (w : World) (hf : f.size ≤ 4611686018427387904) (hn : n ≤ 4096) (hn4 : 4 ≤ n) (hin : InB w (some ⟨b, o, none⟩) n c xs)
    (e0 : xs.getD 0 0 = b0) (e1 : xs.getD 1 0 = b1) (e2 : xs.getD 2 0 = b2) (e3 : xs.getD 3 0 = b3) (N : Nat) (hN : be4 b0 b1 b2 b3 = (N : Int)) (hN4 : 4 + N ≤ n) (hc4 : c = 4 ∨ (4 < c ∧ c = 4 + N) ∨ (4 < c ∧ 4 + N < c)) :
    Calls Ybaf.prog 4 #[.slice (some ⟨b, o, none⟩) n c, .bool false, .string f] w fun e w' => e = .returned (.bool true) ∧ Below w.heap.size w w' := by
  obtain ⟨i0, hi, hz0, hz1, hz2⟩ := info_parts Ybaf.info5
  have hq1 := q22e
  have hq2 := q28n
  have r0 := hin.rng 0 (by omega)
  have r1 := hin.rng 1 (by omega)
  have r2 := hin.rng 2 (by omega)
  have r3 := hin.rng 3 (by omega)
  obtain ⟨b', o', hbo, hcs⟩ := hin.cells.at (by omega)
  simp at hbo
  obtain ⟨rfl, rfl⟩ := hbo
  have x0 := hcs 0 (by omega)
  have x1 := hcs 1 (by omega)
  have x2 := hcs 2 (by omega)
  have x3 := hcs 3 (by omega)
  rw [e0] at x0 r0
  rw [e1] at x1 r1
  rw [e2] at x2 r2
  rw [e3] at x3 r3
  rw [Nat.add_zero] at x0
  clear hcs
  have HE : Hid (xs.getD 0 0 = b0 ∧ xs.getD 1 0 = b1 ∧ xs.getD 2 0 = b2 ∧ xs.getD 3 0 = b3) := ⟨e0, e1, e2, e3⟩
  clear e0 e1 e2 e3
  have hsum := be64_sum b0 b1 b2 b3 r0 r1 r2 r3
  rw [hN] at hsum
  have HN : Hid (be4 b0 b1 b2 b3 = (N : Int)) := hN
  clear hN
  go_enter Ybaf.func4, Ybaf.ntmps4
  go_wp2_with (first | (at_make; refine wpList_make_full _ rfl (.tmp 18) (.tmp 18) 22 rfl w.heap.size 5 i0 (.int .u8 0) 1 Ybaf.underlying22 hi hz0 hz1 .i64 .i64 n n n rfl rfl rfl rfl (by rw [hz2]; omega) (by unfold maxLen; omega) (Nat.le_refl _) ?_; intro w1 hown1 hgrow1; obtain ⟨cur, hcl, hg⟩ := made_row hown1; have hb1 := (Below.refl w.heap.size w).grown hgrow1 (Nat.le_refl _) (by simp); obtain ⟨w2, hrun, hb2, hcells, hlt⟩ := copy_run hin hb1 (Nat.le_refl _) hcl hg; clear hown1 hgrow1 hg hb1) | fail)
  clear hrun
  have hbW : Below w2.heap.size w2 (w2.alloc (Obj.cells #[Value.slice (some { block := w.heap.size, off := 0 }) n n, Value.nilIface, Value.slice none 0 0] 30)) := (Below.refl _ _).alloc (Nat.le_refl _) _
  have y0 := hcells 0 (by omega)
  have y1 := hcells 1 (by omega)
  have y2 := hcells 2 (by omega)
  have y3 := hcells 3 (by omega)
  rw [HE.out.1] at y0
  rw [HE.out.2.1] at y1
  rw [HE.out.2.2.1] at y2
  rw [HE.out.2.2.2] at y3
  refine (str_ok w2.heap.size w.heap.size 0 n n N b0 b1 b2 b3 f _ hf hn4 (Nat.le_refl _) (by omega) r0 r1 r2 r3 ?_ ?_ ?_ ?_ ?_ HN.out (by omega)).mono ?_
  · exact cell_later hbW y0
  · exact cell_later hbW y1
  · exact cell_later hbW y2
  · exact cell_later hbW y3
  · exact dec_new w2 _
  rintro e w4 ⟨o1, k1, o2, l, k2, rfl, ho1, ho2, hl2, hb4, hd4⟩
  obtain ⟨c0, c1, c2, f0, f1⟩ := hd4
  have hb5 := hbW.trans hb4
  have hbW0 := hb2.trans (hb5.mono (Nat.le_of_lt hlt))
  replace x0 := cell_later hbW0 x0
  replace x1 := cell_later hbW0 x1
  replace x2 := cell_later hbW0 x2
  replace x3 := cell_later hbW0 x3
  clear y0 y1 y2 y3
  have i0 : (0 : Int) < (n : Int) := by omega
  have i1 : (1 : Int) < (n : Int) := by omega
  have i2 : (2 : Int) < (n : Int) := by omega
  have i3 : (3 : Int) < (n : Int) := by omega
  have HO1 : Hid (N = 0 ∨ o1 = 0 + 4) := ho1
  have HO2 : Hid (l = 0 ∨ o2 = 0 + 4 + N) := ho2
  have HL : Hid (l + 4 + N = n) := hl2
  clear ho1 ho2 hl2
  go_wp2_with fail
  go_quiet (fail)
  have hd5 : Dec (w4.drewN nq) w2.heap.size (.slice (some ⟨w.heap.size, o2, none⟩) l k2) .nilIface := ⟨c0, c1, c2, f0, f1⟩
  have hb6 := below_drewN hb5 nq
  have hb7 := below_drewN hbW0 nq
  clear c0 c1 c2 f0 f1 x0 x1 x2 x3
  generalize w4.drewN nq = w5 at hd5 hb6 hb7 ⊢
  obtain ⟨c0, c1, c2, f0, f1⟩ := hd5
  clear hb5 hbW0 hb4
  have hlen := hin.len
  have hll := HL.out
  have hcW : ∀ i, i < n → w5.cell? ⟨w.heap.size, 0 + i, none⟩ = some (.int .u8 (xs.getD i 0)) := fun i hi => by rw [Nat.zero_add]; exact cell_later hb6 (hcells i hi)
  obtain ⟨b', o', hbo, hcs⟩ := (bytes_later hin.cells hb7).at (by omega)
  simp at hbo
  obtain ⟨rfl, rfl⟩ := hbo
  have E1 : Lib.BytesIn w5 (some ⟨w.heap.size, o1, none⟩) N ((xs.drop 4).take N) := bytes_cut hcW hlen (by omega) HO1.out
  have E2 := cut_len (k := 4) (m := N) hlen (by omega)
  have E3 : Lib.BytesIn w5 (some ⟨w.heap.size, o2, none⟩) l ((xs.drop (4 + N)).take l) := bytes_cut hcW hlen (by omega) (by have := HO2.out; omega)
  have E4 := cut_len (k := 4 + N) (m := l) hlen (by omega)
  have H1 : Hid (Lib.BytesIn w5 (some ⟨w.heap.size, o1, none⟩) N ((xs.drop 4).take N) ∧ ((xs.drop 4).take N).length = N) := ⟨E1, E2⟩
  have H2 : Hid (∀ o', (N = 0 ∨ o' = o + 4) → Lib.BytesIn w5 (some ⟨b, o', none⟩) N ((xs.drop 4).take N)) := fun o' h => bytes_cut hcs hlen (by omega) h
  have H3 : Hid (Lib.BytesIn w5 (some ⟨w.heap.size, o2, none⟩) l ((xs.drop (4 + N)).take l) ∧ ((xs.drop (4 + N)).take l).length = l) := ⟨E3, E4⟩
  have H4 : Hid (∀ o', (l = 0 ∨ o' = o + (4 + N)) → Lib.BytesIn w5 (some ⟨b, o', none⟩) l ((xs.drop (4 + N)).take l)) := fun o' h => bytes_cut hcs hlen (by omega) h
  clear hcW hcs E1 E2 E3 E4 hlen hcells hll
  have hcap : n ≤ c := hin.cap
  have i4 : (4 : Int) ≤ (n : Int) := by omega
  have HB : Hid (Below w.heap.size w w5) := hb7
  clear hin hb6 hb7
  rcases hc4 with hc4 | ⟨hc4, hc5⟩ | ⟨hc4, hc5⟩
  · subst hc4
    obtain rfl : n = 4 := by omega
    obtain rfl : N = 0 := by omega
    obtain rfl : l = 0 := by have := HL.out; omega
    go_wp2_with fail
    go_quiet ((go_at_call 6; refine Calls.quiet_of_same (equal_any _ _ 0 _ _ [] _ rfl ?_ ?_); exact Lib.BytesIn.nil _ _ _; exact Lib.BytesIn.nil _ _ _))
    go_wp2
    go_ret
    exact ⟨rfl, below_drewN HB.out _⟩
  · subst hc5
    obtain rfl : n = 4 + N := by omega
    obtain rfl : l = 0 := by have := HL.out; omega
    go_wp2_with fail
    go_quiet ((first | (go_at_call_of 6 (Value.slice (some ⟨w.heap.size, o1, none⟩) N k1); refine Calls.quiet_of_same (equal_any _ _ N _ _ _ _ H1.out.2 ?_ ?_); exact H1.out.1; exact H2.out _ (Or.inr rfl)) | (go_at_call_of 6 (Value.slice (some ⟨w.heap.size, o2, none⟩) 0 k2); refine Calls.quiet_of_same (equal_any _ _ 0 _ _ [] _ rfl ?_ ?_); exact Lib.BytesIn.nil _ _ _; exact Lib.BytesIn.nil _ _ _)))
    go_wp2
    go_ret
    exact ⟨rfl, below_drewN HB.out _⟩
  · obtain rfl : l = n - (4 + N) := by have := HL.out; omega
    go_wp2_with fail
    go_quiet ((first | (go_at_call_of 6 (Value.slice (some ⟨w.heap.size, o1, none⟩) N k1); refine Calls.quiet_of_same (equal_any _ _ N _ _ _ _ H1.out.2 ?_ ?_); exact H1.out.1; exact H2.out _ (Or.inr rfl)) | (go_at_call 6; refine Calls.quiet_of_same (equal_any _ _ (n - (4 + N)) _ _ _ _ H3.out.2 ?_ ?_); exact H3.out.1; exact H4.out _ (Or.inr rfl))))
    go_wp2
    go_ret
    exact ⟨rfl, below_drewN HB.out _⟩
end Go.Proofs.YbulkcljkFmt
