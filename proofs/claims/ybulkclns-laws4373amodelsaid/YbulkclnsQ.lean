import Derived.Test.YbulkclnsP
namespace Go.Proofs.Ybulkclns
open Go.RowKit

theorem make26 : ∀ kk : Nat, kk ≤ 6 → ∃ cs : Array Value, ∀ w, (Instr.makeSlice 26 (.int .i64 kk) (.int .i64 kk)).run Yba.prog w = .ok (.slice (some ⟨w.heap.size, 0, none⟩) kk kk) (w.alloc (.cells cs 97))
  | 0, _ => ⟨#[], fun w => by kernel_rfl⟩
  | 1, _ => ⟨(Array.range 3).map (fun j => (#[.string ⟨#[]⟩, .int .i64 0, .slice none 0 0] : Array Value)[j % 3]!), fun w => by kernel_rfl⟩
  | 2, _ => ⟨(Array.range 6).map (fun j => (#[.string ⟨#[]⟩, .int .i64 0, .slice none 0 0] : Array Value)[j % 3]!), fun w => by kernel_rfl⟩
  | 3, _ => ⟨(Array.range 9).map (fun j => (#[.string ⟨#[]⟩, .int .i64 0, .slice none 0 0] : Array Value)[j % 3]!), fun w => by kernel_rfl⟩
  | 4, _ => ⟨(Array.range 12).map (fun j => (#[.string ⟨#[]⟩, .int .i64 0, .slice none 0 0] : Array Value)[j % 3]!), fun w => by kernel_rfl⟩
  | 5, _ => ⟨(Array.range 15).map (fun j => (#[.string ⟨#[]⟩, .int .i64 0, .slice none 0 0] : Array Value)[j % 3]!), fun w => by kernel_rfl⟩
  | 6, _ => ⟨(Array.range 18).map (fun j => (#[.string ⟨#[]⟩, .int .i64 0, .slice none 0 0] : Array Value)[j % 3]!), fun w => by kernel_rfl⟩
  | k + 7, h => by omega

theorem f0F_rng {fa : Nat → Int} {n4 : Nat} {h : Int} (h0 : 0 ≤ h) (h1 : h ≤ 65535) (hr : ∀ i, 0 ≤ fa i ∧ fa i ≤ 255) (i : Nat) : 0 ≤ f0F fa n4 (h + 8) i ∧ f0F fa n4 (h + 8) i ≤ 100000 := by
  have := hr i
  unfold f0F
  split <;> omega

set_option maxRecDepth 100000 in
set_option maxHeartbeats 2000000 in
theorem mod_long (a0 a1 a2 a3 : Int) (p4 p5 : Option Addr) (n4 c4 n5 c5 : Nat) (w : World) (h : 1024 < n5) :
    Calls Yba.prog 3 #[.int .u16 a0, .int .u8 a1, .int .u8 a2, .int .u8 a3, .slice p4 n4 c4, .slice p5 n5 c5] w fun e w' => e = .returned (.bool true) ∧ Below w.heap.size w w' := by
  have g1 : decide ((1024 : Int) < (n5 : Int)) = true := by simp; omega
  go_enter Yba.func3, Yba.ntmps3
  go_wp2_with fail
  go_ret
  exact ⟨rfl, Below.refl _ _⟩

set_option maxRecDepth 1000000 in
set_option maxHeartbeats 8000000 in
theorem mod_walk (b0 b1 b2 b3 : Nat) (p4 p5 : Option Addr) (n4 c4 n5 c5 : Nat) (fa fb : Nat → Int) (w : World) (h0 : b0 ≤ 65535) (h1 : b1 ≤ 255) (h2 : b2 ≤ 255) (h3 : b3 ≤ 255) (s4 : SlU w p4 n4 fa) (s5 : SlU w p5 n5 fb) (m4 : n4 ≤ 9223372036854775807) (h5 : n5 ≤ 1024) :
    Calls Yba.prog 3 #[.int .u16 b0, .int .u8 b1, .int .u8 b2, .int .u8 b3, .slice p4 n4 c4, .slice p5 n5 c5] w fun e w' => e = .returned (.bool true) ∧ Below w.heap.size w w' := by
  have HI : Hid (SlU w p4 n4 fa ∧ SlU w p5 n5 fb) := ⟨s4, s5⟩
  clear s4 s5
  have g1 : decide ((1024 : Int) < (n5 : Int)) = false := by simp; omega
  obtain ⟨kk, hkk⟩ : ∃ x, x = 1 + b1 % 6 := ⟨_, rfl⟩
  have hk0 : 0 < kk := by omega
  have hk : kk ≤ 6 := by omega
  obtain ⟨fi, hfi0⟩ : ∃ x, x = b2 % kk := ⟨_, rfl⟩
  have hfi : fi < kk := by rw [hfi0]; exact Nat.mod_lt _ hk0
  obtain ⟨h, hh⟩ : ∃ x : Int, x = (b0 : Int) := ⟨_, rfl⟩
  have hh0 : 0 ≤ h := by omega
  have hh1 : h ≤ 65535 := by omega
  obtain ⟨mh, hmh⟩ : ∃ x : Int, x = h + 1 + ((b3 % 32 : Nat) : Int) := ⟨_, rfl⟩
  have hm0 : 0 ≤ mh := by omega
  have hm1 : mh ≤ 100000 := by omega
  have HKK : Hid (1 + (b1 : Int) % 6 = (kk : Int)) := by show 1 + (b1 : Int) % 6 = (kk : Int); omega
  have HFI : Hid ((b2 : Int) % (kk : Int) = (fi : Int)) := by show (b2 : Int) % (kk : Int) = (fi : Int); rw [hfi0]; exact (Int.natCast_emod b2 kk).symm
  have HH : Hid (h = (b0 : Int)) := hh
  have HMH : Hid (h + 1 + (b3 : Int) % 32 = mh) := by show h + 1 + (b3 : Int) % 32 = mh; omega
  have hkne : ¬ (kk : Int) = 0 := by omega
  clear hkk hfi0 hh hmh
  have hf0 := f0F_rng (n4 := n4) hh0 hh1 HI.out.1.rng
  have HF : Hid (∀ i, 0 ≤ f0F fa n4 (h + 8) i ∧ f0F fa n4 (h + 8) i ≤ 100000) := hf0
  clear hf0
  go_enter Yba.func3, Yba.ntmps3
  go_upto_region 3 with fail
  go_cut [13] from 50 to 53 (fun s wx => s = .int .i64 kk ∧ wx = w)
  case first =>
    go_wp2_with fail
    go_meet
    exact ⟨by rw [← HKK.out], rfl⟩
  case rest =>
  obtain ⟨rfl, hwc⟩ := hcut
  subst hwc
  obtain ⟨w, rfl⟩ : ∃ x, x = wc := ⟨wc, rfl⟩
  apply_assumption
  go_upto_region 4 with fail
  go_cut [14] from 54 to 57 (fun s wx => s = .int .i64 fi ∧ wx = w)
  case first =>
    go_wp2_with fail
    go_meet
    exact ⟨by rw [← HFI.out], rfl⟩
  case rest =>
  obtain ⟨rfl, hwc⟩ := hcut
  subst hwc
  obtain ⟨w, rfl⟩ : ∃ x, x = wc := ⟨wc, rfl⟩
  apply_assumption
  go_upto_region 5 with fail
  go_cut [15] from 58 to 59 (fun s wx => s = .int .i64 h ∧ wx = w)
  case first =>
    go_wp2_with fail
    go_meet
    exact ⟨by rw [HH.out], rfl⟩
  case rest =>
  obtain ⟨rfl, hwc⟩ := hcut
  subst hwc
  obtain ⟨w, rfl⟩ : ∃ x, x = wc := ⟨wc, rfl⟩
  apply_assumption
  go_upto_region 7 with fail
  go_cut [17] from 62 to 67 (fun s wx => s = .int .i64 mh ∧ wx = w)
  case first =>
    go_wp2_with fail
    go_meet
    exact ⟨by rw [← HMH.out], rfl⟩
  case rest =>
  obtain ⟨rfl, hwc⟩ := hcut
  subst hwc
  obtain ⟨w, rfl⟩ : ∃ x, x = wc := ⟨wc, rfl⟩
  apply_assumption
  obtain ⟨F0, hF0⟩ : ∃ x, x = w.heap.size := ⟨_, rfl⟩
  have HF0 : Hid (F0 = w.heap.size) := hF0
  clear hF0
  go_upto_region 8 with fail
  go_cut [18] from 68 to 69 (fun s wx => s = .slice (some ⟨F0, 0, none⟩) kk kk ∧ Cells wx F0 kk (fun _ => .int .i64 0) ∧ Below w.heap.size w wx)
  case first =>
    have hmk := run_make_row' (P := Yba.prog) 24 2 (.int .i64 0) 8 Yba.underlying24 Yba.info2c rfl .i64 .i64 kk (by omega) (by omega)
    go_wp2_with fail
    go_meet
    exact ⟨by rw [HF0.out], by rw [HF0.out]; exact (cells_mk w #[.int .i64 0] kk 2).congr (fun i hi => by simp [Nat.mod_one]), bl_new (Below.refl _ _) _⟩
  case rest =>
  obtain ⟨rfl, hC0, hb0⟩ := hcut
  obtain ⟨W0, rfl⟩ : ∃ x, x = wc := ⟨wc, rfl⟩
  have H0 : Hid (Cells W0 F0 kk (fun _ => .int .i64 0) ∧ Below w.heap.size w W0) := ⟨hC0, hb0⟩
  clear hC0 hb0
  apply_assumption
  go_wp2_with fail
  refine mod_10 F0 kk n4 c4 p4 fa (h + 8) w W0 HI.out.1 H0.out.2 (by rw [HF0.out]; exact Nat.le_refl _) H0.out.1 hk m4 (by omega) (by omega) _ _ _ _ _ _ _ _ _ _ _ _ _ _ _ _ _ _ _ _ _ _ _ _ _ _ _ _ _ _ _ _ _ _ _ _ _ _ _ _ _ _ _ _ _ _ _ _ _ _ _ _ _ _ _ _ _ _ _ _ _ _ _ _ _ _ _ _ _ _ _ _ _ _ _ _ _ _ _ _ _ _ _ _ _ _ _ _ _ _ _ _ _ _ _ _ _ _ _ _ _ _ _ _ _ _ _ _ _ _ _ _ _ _ _ _ _ _ _ _ _ _ _ _ _ _ _ _ _ _ _ _ _ _ _ _ _ _ _ _ _ _ _ _ _ _ _ _ _ _ _ _ _ _ _ _ _ _ _ _ _ _ _ _ _ _ _ _ _ _ _ _ _ _ _ _ _ _ _ _ _ _ _ _ _ _ _ _ _ _ _ _ _ _ _ _ _ _ _ _ _ _ _ _ _ _ _ _ _ _ _ _ _ _ _ _ _ _ _ _ _ _ _ _ _ _ _ _ _ _ _ _ _ _ _ _ _ _ _ _ _ _ _ _ _ _ _ _ _ _ _ _ _ _ _ _ _ _ _ _ _ _ _ _ _ _ _ _ _ _ _ _ _ _ _ _ _ _ _ _ _ _ _ _ _ _ _ _ _ _ _ _ _ _ _ _ _ _ _ _ _ _ _ _ _ _ _ _ _ _ _ _ _ _ _ _ _ _ _ _ _ _ _ _ _ _ _ _ _ _ _ _ ?_
  rintro W1 _ _ _ _ _ _ _ _ _ _ _ _ _ _ _ _ _ _ _ _ _ _ _ _ _ _ _ ⟨hC1, hK1⟩
  have hbw1 : Below w.heap.size w W1 := H0.out.2.trans (hK1.below H0.out.2.size (fun b e => by rw [e, HF0.out]; exact Nat.le_refl _))
  obtain ⟨f, hff⟩ : ∃ x, x = f0F fa n4 (h + 8) := ⟨_, rfl⟩
  rw [← hff] at hC1 HF
  have H1 : Hid (Cells W1 F0 kk (fun i => .int .i64 (f i)) ∧ Below w.heap.size w W1) := ⟨hC1, hbw1⟩
  clear hC1 hbw1 hK1 hff H0
  obtain ⟨VB, hVB⟩ : ∃ x, x = W1.heap.size := ⟨_, rfl⟩
  have HVB : Hid (VB = W1.heap.size) := hVB
  clear hVB
  go_upto_region 16 with fail
  go_cut [21] from 95 to 98 (fun s wx => s = .pointer (some ⟨VB + 1, 0, none⟩) ∧ wx.cell? ⟨VB + 1, 0, none⟩ = some (.slice (some ⟨VB, 0, none⟩) kk kk) ∧ VB + 1 < wx.heap.size ∧ Below W1.heap.size W1 wx)
  case first =>
    obtain ⟨cs, hmk⟩ := make26 kk hk
    go_wp2_with fail
    go_meet
    refine ⟨by simp [HVB.out], ?_, ?_, ?_⟩
    · rw [HVB.out]; go_simp
    · rw [HVB.out]; simp
    · exact bl_new (bl_new (Below.refl _ _) _) _
  case rest =>
  obtain ⟨rfl, hv2, hv3, hb2⟩ := hcut
  obtain ⟨W2, rfl⟩ : ∃ x, x = wc := ⟨wc, rfl⟩
  have H2 : Hid (W2.cell? ⟨VB + 1, 0, none⟩ = some (.slice (some ⟨VB, 0, none⟩) kk kk) ∧ VB + 1 < W2.heap.size ∧ Below W1.heap.size W1 W2) := ⟨hv2, hv3, hb2⟩
  clear hv2 hv3 hb2
  obtain ⟨VS, hVS⟩ : ∃ x, x = VB + 1 := ⟨_, rfl⟩
  rw [← hVS] at H2 ⊢
  clear hVS
  obtain ⟨LM, hLM⟩ : ∃ x, x = W2.heap.size := ⟨_, rfl⟩
  have HLM : Hid (LM = W2.heap.size) := hLM
  clear hLM
  apply_assumption
  go_upto_region 17 with fail
  go_cut [22] from 99 to 99 (fun s wx => s = .map (some LM) ∧ wx = W2.alloc (.map #[] 0))
  case first =>
    have hmm : ∀ w, (Instr.makeMap 30 none).run Yba.prog w = .ok (.map (some w.heap.size)) (w.alloc (.map #[] 0)) := fun w => rfl
    go_wp2_with fail
    go_meet
    exact ⟨by rw [HLM.out], rfl⟩
  case rest =>
  obtain ⟨rfl, hwc⟩ := hcut
  have hM3 : MapP wc LM (fun _ => none) 0 0 := by rw [hwc, HLM.out]; exact MapP.made W2
  have hb3 : Below W2.heap.size W2 wc := by rw [hwc]; exact bl_new (Below.refl _ _) _
  clear hwc
  obtain ⟨W3, rfl⟩ : ∃ x, x = wc := ⟨wc, rfl⟩
  have hb13 : Below W1.heap.size W1 W3 := bl_then hb3 H2.out.2.2
  have hbw3 : Below w.heap.size w W3 := H1.out.2.trans (hb13.mono H1.out.2.size)
  have H3 : Hid (MapP W3 LM (fun _ => none) 0 0 ∧ W3.cell? ⟨VS, 0, none⟩ = some (.slice (some ⟨VB, 0, none⟩) kk kk) ∧ VS < LM ∧ Cells W3 F0 kk (fun i => .int .i64 (f i)) ∧ F0 < LM ∧ Below w.heap.size w W3 ∧ w.heap.size ≤ LM) := by
    have e1 := H1.out.1.lt
    have e2 := H2.out.2.2.size
    have e3 := H2.out.2.1
    have e4 := HLM.out
    have e5 := H1.out.2.size
    exact ⟨hM3, cell_later hb3 H2.out.1, by omega, H1.out.1.later hb13, by omega, hbw3, by omega⟩
  clear hM3 hb3 hb13 hbw3
  apply_assumption
  go_wp2_with fail
  refine mod_21 VS VB LM kk n5 c5 p5 fb h w W3 HI.out.2 H3.out.2.2.2.2.2.1 H3.out.2.1 (by have := H3.out.2.2.1; omega) H3.out.2.2.2.2.2.2 H3.out.1.lt H3.out.1 h5 hk hh0 hh1 _ _ _ _ _ _ _ _ _ _ _ _ _ _ _ _ _ _ _ _ _ _ _ _ _ _ _ _ _ _ _ _ _ _ _ _ _ _ _ _ _ _ _ _ _ _ _ _ _ _ _ _ _ _ _ _ _ _ _ _ _ _ _ _ _ _ _ _ _ _ _ _ _ _ _ _ _ _ _ _ _ _ _ _ _ _ _ _ _ _ _ _ _ _ _ _ _ _ _ _ _ _ _ _ _ _ _ _ _ _ _ _ _ _ _ _ _ _ _ _ _ _ _ _ _ _ _ _ _ _ _ _ _ _ _ _ _ _ _ _ _ _ _ _ _ _ _ _ _ _ _ _ _ _ _ _ _ _ _ _ _ _ _ _ _ _ _ _ _ _ _ _ _ _ _ _ _ _ _ _ _ _ _ _ _ _ _ _ _ _ _ _ _ _ _ _ _ _ _ _ _ _ _ _ _ _ _ _ _ _ _ _ _ _ _ _ _ _ _ _ _ _ _ _ _ _ _ _ _ _ _ _ _ _ _ _ _ _ _ _ _ _ _ _ _ _ _ _ _ _ _ _ _ _ _ _ _ _ _ _ _ _ _ _ _ _ _ _ _ _ _ _ _ _ _ _ _ _ _ _ _ _ _ _ _ _ _ _ _ _ _ _ _ _ _ _ _ _ _ _ _ _ _ _ _ _ _ _ _ _ _ _ _ _ _ _ _ _ _ _ _ _ _ _ _ _ _ _ _ ?_
  rintro W4 _ _ _ _ _ _ _ _ _ _ _ _ _ _ _ _ _ _ _ _ _ _ _ _ _ _ _ _ _ _ _ _ _ ⟨n, n0, g, q, sp1, sc1, sp2, sc2, rfl, rfl, hn, hn0, hM2⟩
  have H4 : Hid (Mk2 LM n n0 W3.heap.size (.slice sp1 n sc1) (.slice sp2 n sc2) g q W3 W4 ∧ n ≤ n0 ∧ n0 ≤ n5) := ⟨hM2, hn, hn0⟩
  clear hM2 hn hn0
  obtain ⟨FH, hFH⟩ : ∃ x, x = W4.heap.size := ⟨_, rfl⟩
  have HFH : Hid (FH = W4.heap.size) := hFH
  clear hFH
  go_upto_region 30 with fail
  go_cut [29] from 130 to 131 (fun s wx => s = .slice (some ⟨FH, 0, none⟩) kk kk ∧ Cells wx FH kk (fun _ => .int .i64 0) ∧ Below W4.heap.size W4 wx)
  case first =>
    have hmk := run_make_row' (P := Yba.prog) 35 2 (.int .i64 0) 8 Yba.underlying35 Yba.info2c rfl .i64 .i64 kk (by omega) (by omega)
    go_wp2_with fail
    go_meet
    exact ⟨by rw [HFH.out], by rw [HFH.out]; exact (cells_mk W4 #[.int .i64 0] kk 2).congr (fun i hi => by simp [Nat.mod_one]), bl_new (Below.refl _ _) _⟩
  case rest =>
  obtain ⟨rfl, hZ, hb5⟩ := hcut
  obtain ⟨hM2, hn, hn0⟩ := H4.out
  obtain ⟨d1, d2, d3, d4, d5, d6, d7⟩ := H3.out
  have hLl := d1.lt
  have hs := hM2.kp.size
  have r1 : 0 < n → ∃ b, sp1 = some ⟨b, 0, none⟩ ∧ ¬ b = LM ∧ b < W4.heap.size ∧ ∀ i, i < n → W4.cell? ⟨b, i, none⟩ = some (.int .i64 (g i)) := fun hp => by
    obtain ⟨R, cap, e, hB, hc⟩ := hM2.k.form hp
    cases e
    exact ⟨R, rfl, by omega, hc.lt, fun i hi => hc.cell i hi⟩
  have r2 : 0 < n → ∃ b, sp2 = some ⟨b, 0, none⟩ ∧ ¬ b = LM ∧ b < W4.heap.size ∧ ∀ i, i < n → W4.cell? ⟨b, i, none⟩ = some (.pointer (some ⟨q i, 0, none⟩)) := fun hp => by
    obtain ⟨R, cap, e, hB, hc⟩ := hM2.p.form hp
    cases e
    exact ⟨R, rfl, by omega, hc.lt, fun i hi => hc.cell i hi⟩
  apply_assumption
  exact mod_31 FH F0 VS VB LM kk fi n n0 sc1 sc2 sp1 sp2 g q h mh f w W4 wc HFH.out hZ hb5 (hM2.kp.cells (by omega) d4) (hM2.kp.cell (show ¬ VS = LM by omega) d2) (by omega) r1 r2 hM2.m hM2.dis hM2.rng HF.out (d6.trans (hM2.kp.below d6.size (fun b e => by omega))) d7 (by omega) (by omega) (by omega) (by omega) hk0 hk hfi hm0 hm1 hh0 hh1 _ _ _ _ _ _ _ _ _ _ _ _ _ _ _ _ _ _ _ _ _ _ _ _ _ _ _ _ _ _ _ _ _ _ _ _ _ _ _ _ _ _ _ _ _ _ _ _ _ _ _ _ _ _ _ _ _ _ _ _ _ _ _ _ _ _ _ _ _ _ _ _ _ _ _ _ _ _ _ _ _ _ _ _ _ _ _ _ _ _ _ _ _ _ _ _ _ _ _ _ _ _ _ _ _ _ _ _ _ _ _ _ _ _ _ _ _ _ _ _ _ _ _ _ _ _ _ _ _ _ _ _ _ _ _ _ _ _ _ _ _ _ _ _ _ _ _ _ _ _ _ _ _ _ _ _ _ _ _ _ _ _ _ _ _ _ _ _ _ _ _ _ _ _ _ _ _ _ _ _ _ _ _ _ _ _ _ _ _ _ _ _ _ _ _ _ _ _ _ _ _ _ _ _ _ _ _ _ _ _ _ _ _ _ _ _ _ _ _ _ _ _ _ _ _ _ _ _ _ _ _ _ _ _ _ _ _ _ _ _ _ _ _ _ _ _ _ _ _ _ _ _ _ _ _ _ _ _ _ _ _ _ _ _ _ _ _ _ _ _ _ _ _ _ _ _ _ _ _ _ _ _ _ _ _ _ _ _ _ _ _ _ _ _ _ _ _ _ _ _ _ _ _ _ _ _ _ _ _ _ _ _ _ _ _ _ _ _ _ _ _ _ _ _ _
end Go.Proofs.Ybulkclns
