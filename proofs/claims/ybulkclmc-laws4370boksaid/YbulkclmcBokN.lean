import Derived.Test.YbulkclmcBokM
namespace Go.Proofs.Ybulkclmc
open Go.RowKit

theorem Mk.later {DB ST PB na m n5 i : Nat} {dv : Nat → Int} {pv : Nat → Bool} {LB : Nat → Nat} {L : Nat → Lb} {has : Nat → Bool} {W wr w' : World} (h : Mk DB ST PB na m n5 i dv pv LB L has W wr) (hb : Below wr.heap.size wr w') : Mk DB ST PB na m n5 i dv pv LB L has W w' :=
  ⟨h.d.later hb, h.p.later hb, h.s.later hb, fun j h1 h2 => by obtain ⟨a, b, c⟩ := h.l j h1 h2; exact ⟨a, Nat.lt_of_lt_of_le b hb.size, fun q hq => cell_later hb (c q hq)⟩, h.kp.trans (Keeps.of_below hb)⟩

theorem Yba.info60n : (Yba.prog.info? 60).map (fun i => (i.zero, i.size, i.bytes)) = some (some (.agg #[.slice none 0 0, .bool false]), 2, 32) := by kernel_rfl
theorem Yba.info4n : (Yba.prog.info? 4).map (fun i => (i.zero, i.size, i.bytes)) = some (some (.bool false), 1, 1) := by kernel_rfl

set_option maxRecDepth 100000 in
set_option maxHeartbeats 2000000 in
theorem bok_long (a0 a1 a2 a7 : Int) (rev : Bool) (p4 p5 p6 : Option Addr) (n4 c4 n5 c5 n6 c6 : Nat) (tag : Int) (w : World) (h : 300 < n5) (m5 : n5 ≤ 9223372036854775807) :
    Calls Yba.prog 4 #[.int .u8 a0, .int .u8 a1, .int .u8 a2, .bool rev, .slice p4 n4 c4, .slice p5 n5 c5, .slice p6 n6 c6, .int .u8 a7, .int .i64 tag] w fun e w' => e = .returned (.bool true) ∧ Below w.heap.size w w' := by
  go_enter Yba.func4, Yba.ntmps4
  go_wp2
  go_ret
  exact ⟨rfl, Below.refl _ _⟩

set_option maxRecDepth 1000000 in
set_option maxHeartbeats 8000000 in
theorem bok_walk (b0 b1 b2 b7 : Nat) (rev : Bool) (p4 p5 p6 : Option Addr) (n4 c4 n5 c5 n6 c6 : Nat) (tag : Int) (dom : Nat → Int) (prn has : Nat → Bool) (L : Nat → Lb) (w : World)
    (h0 : b0 ≤ 255) (h1 : b1 ≤ 255) (h2 : b2 ≤ 255) (h7 : b7 ≤ 255) (h5 : n5 ≤ 300) (m4 : n4 ≤ 9223372036854775807) (m6 : n6 ≤ 9223372036854775807) (s4 : SlB w p4 n4 (fun i => .int .i64 (dom i))) (s6 : SlB w p6 n6 (fun i => .bool (prn i))) (hN : NgIn p5 n5 L has w) (hLm : ∀ i, i < n5 → (L i).n ≤ 9223372036854775807) :
    Calls Yba.prog 4 #[.int .u8 b0, .int .u8 b1, .int .u8 b2, .bool rev, .slice p4 n4 c4, .slice p5 n5 c5, .slice p6 n6 c6, .int .u8 b7, .int .i64 tag] w fun e w' => e = .returned (.bool true) ∧ Below w.heap.size w w' := by
  obtain ⟨i3, hi3, y30, y31, y32⟩ := info_parts Yba.info3m
  obtain ⟨i60, hi60, y600, y601, y602⟩ := info_parts Yba.info60n
  obtain ⟨i4, hi4, y40, y41, y42⟩ := info_parts Yba.info4n
  have HI : Hid (SlB w p4 n4 (fun i => .int .i64 (dom i)) ∧ SlB w p6 n6 (fun i => .bool (prn i)) ∧ NgIn p5 n5 L has w ∧ ∀ i, i < n5 → (L i).n ≤ 9223372036854775807) := ⟨s4, s6, hN, hLm⟩
  clear s4 s6 hN hLm
  have g1 : decide ((300 : Int) < (n5 : Int)) = false := by simp; omega
  go_enter Yba.func4, Yba.ntmps4
  go_wp2_with fail
  go_loopw [54] (fun x wr => ∃ k : Nat, k ≤ n5 ∧ x = .int .i64 k ∧ (∀ i, i < k → (L i).n ≤ 300) ∧ Below w.heap.size w wr) (fun x _ => n5 - (intOf x).toNat)
  case atStart => exact ⟨0, Nat.zero_le _, rfl, fun i hi => by omega, Below.refl _ _⟩
  case round =>
    obtain ⟨k, hk, rfl, hLn, hb⟩ := hrel
    by_cases hlt : k < n5
    · obtain ⟨b, o, e, hc⟩ := HI.out.2.2.1.pos (by omega)
      cases e
      obtain ⟨c0, c1⟩ := hc k hlt
      have c0' := cell_later hb c0
      have c1' := cell_later hb c1
      have hm := HI.out.2.2.2 k hlt
      have hk1 : (L k).n ≤ 300 → ∀ i, i < k + 1 → (L i).n ≤ 300 := fun h i hi => by
        by_cases e : i = k
        · subst e; exact h
        · exact hLn i (by omega)
      have HK : Hid ((L k).n ≤ 300 → ∀ i, i < k + 1 → (L i).n ≤ 300) := hk1
      clear hk1 hLn hc c0 c1
      generalize L k = x at *
      obtain ⟨lp, ln, lc, la, lv, lt⟩ := x
      simp only [Lb.val] at c1' hm
      have j1 : (0 : Int) ≤ (k : Int) := by omega
      have j2 : (k : Int) < (n5 : Int) := by omega
      by_cases hl : 300 < ln
      · go_wp2
        go_ret
        exact ⟨rfl, hb.alloc hb.size _⟩
      · go_wp2
        go_roundw
        case rel => exact ⟨k + 1, by omega, by go_num, HK.out (show ln ≤ 300 by omega), hb.alloc hb.size _⟩
        case measure => simp [intOf]; omega
    · obtain rfl : n5 = k := by omega
      obtain ⟨W1, rfl⟩ : ∃ x, x = wr := ⟨wr, rfl⟩
      have HB : Hid ((∀ i, i < n5 → (L i).n ≤ 300) ∧ Below w.heap.size w W1) := ⟨hLn, hb⟩
      clear hLn hb
      obtain ⟨na, hna⟩ : ∃ na, na = b0 % 6 + 1 := ⟨_, rfl⟩
      obtain ⟨m, hmm⟩ : ∃ m, m = n5 + 1 := ⟨_, rfl⟩
      have hna0 : 0 < na := by omega
      have hna6 : na ≤ 6 := by omega
      have hm301 : m ≤ 301 := by omega
      have HNA : Hid (((b0 : Nat) : Int) % 6 + 1 = (na : Int)) := by show ((b0 : Nat) : Int) % 6 + 1 = (na : Int); omega
      have HM1 : Hid (((n5 : Nat) : Int) + 1 = (m : Int)) := by show ((n5 : Nat) : Int) + 1 = (m : Int); omega
      have HMM : Hid (m = n5 + 1) := hmm
      clear hna hmm
      go_upto_region 9 with fail
      go_cut [21] from 63 to 66 (fun s wx => s = .int .i64 na ∧ wx = W1)
      case first =>
        go_wp2_with fail
        go_meet
        exact ⟨by rw [← HNA.out], rfl⟩
      case rest =>
      obtain ⟨rfl, hwc⟩ := hcut
      subst hwc
      obtain ⟨W1, rfl⟩ : ∃ x, x = wc := ⟨wc, rfl⟩
      apply_assumption
      go_upto_region 10 with fail
      go_cut [22] from 67 to 69 (fun s wx => s = .int .i64 m ∧ wx = W1)
      case first =>
        go_wp2_with fail
        go_meet
        exact ⟨by rw [← HM1.out], rfl⟩
      case rest =>
      obtain ⟨rfl, hwc⟩ := hcut
      subst hwc
      obtain ⟨W1, rfl⟩ : ∃ x, x = wc := ⟨wc, rfl⟩
      apply_assumption
      go_wp2_with (first | (at_make; refine wpList_make_full _ rfl (.tmp 70) (.tmp 70) 37 rfl W1.heap.size 3 i3 (.int .i64 0) 1 Yba.underlying37 hi3 y30 y31 .i64 .i64 _ _ m rfl rfl rfl rfl (by rw [y32]; omega) (by unfold maxLen; omega) (Nat.le_refl _) ?_; intro w1 hown1 hgrow1; have hb1 := (Below.refl W1.heap.size W1).grown hgrow1 (Nat.le_refl _) (by simp)) | (at_make; refine wpList_make_full _ rfl (.tmp 72) (.tmp 72) 40 rfl w1.heap.size 60 i60 (.agg #[.slice none 0 0, .bool false]) 2 Yba.underlying40 hi60 y600 y601 .i64 .i64 _ _ m rfl rfl rfl rfl (by rw [y602]; omega) (by unfold maxLen; omega) (Nat.le_refl _) ?_; intro w2 hown2 hgrow2; have hb2 := (Below.refl w1.heap.size w1).grown hgrow2 (Nat.le_refl _) (by simp)) | (at_make; refine wpList_make_full _ rfl (.tmp 74) (.tmp 74) 41 rfl w2.heap.size 4 i4 (.bool false) 1 Yba.underlying41 hi4 y40 y41 .i64 .i64 _ _ m rfl rfl rfl rfl (by rw [y42]; omega) (by unfold maxLen; omega) (Nat.le_refl _) ?_; intro w3 hown3 hgrow3; have hb3 := (Below.refl w2.heap.size w2).grown hgrow3 (Nat.le_refl _) (by simp)) | fail)
      have hC1 := Cells.made hown1
      have hC2 := Cells.made hown2
      have hC3 := Cells.made hown3
      have z1 := hC1.lt
      have z2 := hC2.lt
      have z3 := hC3.lt
      have hbA : Below W1.heap.size W1 w3 := bl_then hb3 (bl_then hb2 hb1)
      have hbw : Below w.heap.size w w3 := HB.out.2.trans (hbA.mono HB.out.2.size)
      have hws := HB.out.2.size
      have hMk : Mk W1.heap.size w1.heap.size w2.heap.size na m n5 0 (fun j => if j < n4 then dom j else (j : Int)) (fun j => if j < n6 then prn j else false) (fun _ => 0) L has w3 w3 := by
        rw [Nat.mul_one] at hC1 hC3
        refine ⟨((hC1.later hb2).later hb3).congr ?_, hC3.congr ?_, (hC2.later hb3).congr ?_, fun j h => by omega, Keeps.refl _ _⟩
        · intro i hi; rw [made_get (by omega)]; simp [Value.cells, Nat.mod_one, toG]
        · intro i hi; rw [made_get (by omega)]; simp [Value.cells, Nat.mod_one, toG]
        · intro i hi; rw [made_get (by omega)]
          have : i % 2 = 0 ∨ i % 2 = 1 := by omega
          rcases this with e | e <;> simp [Value.cells, e, stC]
      clear hown1 hown2 hown3 hgrow1 hgrow2 hgrow3 hC1 hC2 hC3
      refine bok_15 W1.heap.size w1.heap.size w2.heap.size na m n4 c4 n5 c5 n6 c6 p4 p5 p6 dom (fun j => if j < n4 then dom j else (j : Int)) prn (fun j => if j < n6 then prn j else false) L has w w3 HMM.out h5 m4 m6 (fun _ => rfl) (fun _ => rfl) HI.out.1 HI.out.2.1 HI.out.2.2.1 HB.out.1 hbw (by omega) (by omega) (by omega) (by omega) (by omega) (by omega) hMk (by omega) (by omega) (by omega) hna0 hna6 _ _ _ _ _ _ _ _ _ _ _ _ _ _ _ _ _ _ _ _ _ _ _ _ _ _ _ _ _ _ _ _ _ _ _ _ _ _ _ _ _ _ _ _ _ _ _ _ _ _ _ _ _ _ _ _ _ _ _ _ _ _ _ _ _ _ _ _ _ _ _ _ _ _ _ _ _ _ _ _ _ _ _ _ _ _ _ _ _ _ _ _ _ _ _ _ _ _ _ _ _ _ _ _ _ _ _ _ _ _ _ _ _ _ _ _ _ _ _ _ _ _ _ _ _ _ _ _ _ _ _ _ _ _ _ _ _ _ _ _ _ _ _ _ _ _ _ _ _ _ _ _ _ _ _ _ _ _ _ _ _ _ _ _ _ _ _ _ _ _ _ _ _ _ _ _ _ _ _ _ _ _ _ _ _ _ _ _ _ _ _ _ _ _ _ _ _ _ _ _ _ _ _ _ _ _ _ _ _ _ _ _ _ _ _ _ _ _ _ _ _ _ _ _ _ _ _ _ _ _ _ _ _ _ _ _ _ _ _ _ _ _ _ _ _ _ _ _ _ _ _ _ _ _ _ _ _ _ _ _ _ _ _ _ _ _ _ _ _ _ _ _ _ _ _ _ _ _ _ _ _ _ _ _ _ _ _ _ _ _ _ _ _ _ _ _ _ _ _ _ _ _ _ _ _ _ _ _ _ _ _ _ _ _ _ _ _ _ _ _ _ _ _ _ _ _ _ _ _ _ _ _ _ _ _ _ _ _ _ _ _ _ _ _ _ _ _ _ _ _ _ _ _ _ _ _ _ _ _ _ _ _ _ _ _ _ _ _ _ _ _ _ _ _ _ _ _ _ _ _ _ _ _ _ _ _ _ _ _ _ _ _ ?_
      rintro W2 _ _ _ _ _ _ _ _ _ _ _ _ _ _ _ _ _ _ _ _ _ _ _ _ _ _ _ _ _ _ _ _ _ _ _ _ _ _ _ _ _ _ _ _ _ _ _ _ _ _ _ _ _ _ _ _ _ _ _ _ _ _ _ _ _ _ _ _ _ _ _ _ _ _ _ _ _ _ _ _ _ ⟨LB, hM⟩
      have HM : Hid (Mk W1.heap.size w1.heap.size w2.heap.size na m n5 m (fun j => if j < n4 then dom j else (j : Int)) (fun j => if j < n6 then prn j else false) LB L has w3 W2 ∧ Below w.heap.size w W2) := ⟨hM, hbw.trans (hM.kp.below hbw.size (fun b h => by omega))⟩
      clear hM hMk
      go_upto_region 30 with fail
      go_cut [30] from 153 to 156 (fun s wx => ∃ OR OA P, s = .pointer (some ⟨OR, 0, none⟩) ∧ OrderI na b2 rev OR OA P wx ∧ OR < wx.heap.size ∧ Below W2.heap.size W2 wx)
      case first =>
        go_wp2_with fail
        refine (border_any na b2 rev W2 (by omega) hna6 h2).mono ?_
        rintro e wx ⟨OR, OA, P, rfl, hO, _, _, _, hOl, hbx⟩
        go_wp2_with fail
        go_meet
        exact ⟨OR, OA, P, rfl, hO, hOl, hbx⟩
      case rest =>
      obtain ⟨OR, OA, P, rfl, hO, hOl, hbx⟩ := hcut
      apply_assumption
      exact bok_31 b1 b7 b2 W1.heap.size w1.heap.size w2.heap.size OR OA P na m n5 c5 rev p5 tag _ _ has LB L w w3 wc (HM.out.1.later hbx) hO HI.out.2.2.1 HB.out.1 (HM.out.2.trans (hbx.mono HM.out.2.size)) hOl HMM.out h5 hna0 hna6 h1 h7 _ _ _ _ _ _ _ _ _ _ _ _ _ _ _ _ _ _ _ _ _ _ _ _ _ _ _ _ _ _ _ _ _ _ _ _ _ _ _ _ _ _ _ _ _ _ _ _ _ _ _ _ _ _ _ _ _ _ _ _ _ _ _ _ _ _ _ _ _ _ _ _ _ _ _ _ _ _ _ _ _ _ _ _ _ _ _ _ _ _ _ _ _ _ _ _ _ _ _ _ _ _ _ _ _ _ _ _ _ _ _ _ _ _ _ _ _ _ _ _ _ _ _ _ _ _ _ _ _ _ _ _ _ _ _ _ _ _ _ _ _ _ _ _ _ _ _ _ _ _ _ _ _ _ _ _ _ _ _ _ _ _ _ _ _ _ _ _ _ _ _ _ _ _ _ _ _ _ _ _ _ _ _ _ _ _ _ _ _ _ _ _ _ _ _ _ _ _ _ _ _ _ _ _ _ _ _ _ _ _ _ _ _ _ _ _ _ _ _ _ _ _ _ _ _ _ _ _ _ _ _ _ _ _ _ _ _ _ _ _ _ _ _ _ _ _ _ _ _ _ _ _ _ _ _ _ _ _ _ _ _ _ _ _ _ _ _ _ _ _ _ _ _ _ _ _ _ _ _ _ _ _ _ _ _ _ _ _ _ _ _ _ _ _ _ _ _ _ _ _ _ _ _ _ _ _ _ _ _ _ _ _ _ _ _ _ _ _ _ _ _ _ _ _ _ _ _ _ _ _ _ _ _ _ _ _ _ _ _ _ _ _ _ _ _ _ _ _ _ _ _ _ _ _ _ _ _ _ _ _ _ _ _ _ _ _ _ _ _ _ _ _ _ _ _ _ _ _ _ _ _ _ _ _ _ _ _ _ _ _
end Go.Proofs.Ybulkclmc
