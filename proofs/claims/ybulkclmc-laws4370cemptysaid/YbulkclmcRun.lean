import Derived.Test.YbulkclmcEmpty
import Derived.Deep.DeepCutAuto
import Derived.Deep.RegionHeld3
namespace Go.Proofs.Ybulkclmc
open Go.RowKit

structure RunI (m n : Int) (w wx : World) : Prop where
  l0 : wx.cell? ⟨w.heap.size, 0, none⟩ = some (.int .i64 m)
  l1 : wx.cell? ⟨w.heap.size, 1, none⟩ = some (.int .i64 n)
  r0 : ∃ v, wx.cell? ⟨w.heap.size + 1, 0, none⟩ = some v
  r1 : ∃ v, wx.cell? ⟨w.heap.size + 1, 1, none⟩ = some v
  r2 : ∃ v, wx.cell? ⟨w.heap.size + 1, 2, none⟩ = some v
  r3 : ∃ v, wx.cell? ⟨w.heap.size + 1, 3, none⟩ = some v
  r4 : ∃ v, wx.cell? ⟨w.heap.size + 1, 4, none⟩ = some v
  r5 : ∃ v, wx.cell? ⟨w.heap.size + 1, 5, none⟩ = some v
  r6 : ∃ v, wx.cell? ⟨w.heap.size + 1, 6, none⟩ = some v
  fz : ∀ i, wx.frozen? ⟨w.heap.size + 1, i, none⟩ = false
  o1 : wx.cell? ⟨w.heap.size + 1 + 1 + 1 + 1, 1, none⟩ = some (.slice none 0 0)
  o2 : wx.cell? ⟨w.heap.size + 1 + 1 + 1 + 1, 2, none⟩ = some (.pointer none)
  o3 : wx.cell? ⟨w.heap.size + 1 + 1 + 1 + 1, 3, none⟩ = some (.slice (some ⟨w.heap.size + 1 + 1 + 1, 0, none⟩) 0 0)
  o4 : wx.cell? ⟨w.heap.size + 1 + 1 + 1 + 1, 4, none⟩ = some (.int .i64 0)
  o5 : wx.cell? ⟨w.heap.size + 1 + 1 + 1 + 1, 5, none⟩ = some (.int .i64 0)
  o6 : wx.cell? ⟨w.heap.size + 1 + 1 + 1 + 1, 6, none⟩ = some (.int .i64 0)
  o7 : wx.cell? ⟨w.heap.size + 1 + 1 + 1 + 1, 7, none⟩ = some (.slice none 0 0)
  bel : Below w.heap.size w wx
  sz : w.heap.size + 5 ≤ wx.heap.size

theorem lt_frozen {w : World} {b : Nat} (h : b < w.heap.size) {wx : World} (hb : Below w.heap.size w wx) (i : Nat) : wx.frozen? ⟨b, i, none⟩ = w.frozen? ⟨b, i, none⟩ := hb.frozen (p := ⟨b, i, none⟩) h

theorem cell_up {B : Nat} {w wx : World} {b i : Nat} {v : Value} (hb : Below B w wx) (hB : b < B) (h : w.cell? ⟨b, i, none⟩ = some v) : wx.cell? ⟨b, i, none⟩ = some v :=
  (hb.cell (p := ⟨b, i, none⟩) hB).trans h

theorem RunI.later {m n : Int} {w wc wx : World} (h : RunI m n w wc) (hb : Below (w.heap.size + 5) wc wx) : RunI m n w wx := by
  have hs := h.sz
  refine ⟨cell_up hb (by omega) h.l0, cell_up hb (by omega) h.l1, ?_, ?_, ?_, ?_, ?_, ?_, ?_, ?_, cell_up hb (by omega) h.o1, cell_up hb (by omega) h.o2, cell_up hb (by omega) h.o3, cell_up hb (by omega) h.o4, cell_up hb (by omega) h.o5, cell_up hb (by omega) h.o6, cell_up hb (by omega) h.o7, h.bel.trans (hb.mono (by omega)), by have := hb.size; omega⟩
  · obtain ⟨v, e⟩ := h.r0; exact ⟨v, cell_up hb (by omega) e⟩
  · obtain ⟨v, e⟩ := h.r1; exact ⟨v, cell_up hb (by omega) e⟩
  · obtain ⟨v, e⟩ := h.r2; exact ⟨v, cell_up hb (by omega) e⟩
  · obtain ⟨v, e⟩ := h.r3; exact ⟨v, cell_up hb (by omega) e⟩
  · obtain ⟨v, e⟩ := h.r4; exact ⟨v, cell_up hb (by omega) e⟩
  · obtain ⟨v, e⟩ := h.r5; exact ⟨v, cell_up hb (by omega) e⟩
  · obtain ⟨v, e⟩ := h.r6; exact ⟨v, cell_up hb (by omega) e⟩
  · intro i
    rw [hb.frozen (p := ⟨w.heap.size + 1, i, none⟩) (show w.heap.size + 1 < w.heap.size + 5 by omega)]
    exact h.fz i

abbrev KeepO (B : Nat) (wd w' : World) : Prop := w'.cell? ⟨B + 1 + 1 + 1 + 1, 3, none⟩ = some (.slice (some ⟨B + 1 + 1 + 1, 0, none⟩) 0 0) ∧ w'.cell? ⟨B + 1 + 1 + 1 + 1, 4, none⟩ = some (.int .i64 0) ∧ w'.cell? ⟨B + 1 + 1 + 1 + 1, 5, none⟩ = some (.int .i64 0) ∧ w'.cell? ⟨B + 1 + 1 + 1 + 1, 6, none⟩ = some (.int .i64 0) ∧ w'.cell? ⟨B + 1 + 1 + 1 + 1, 7, none⟩ = some (.slice none 0 0) ∧ Below wd.heap.size wd w'

theorem keepO {m n : Int} {w wd w' : World} (h : RunI m n w wd) (hb : Below wd.heap.size wd w') : KeepO w.heap.size wd w' :=
  ⟨cell_later hb h.o3, cell_later hb h.o4, cell_later hb h.o5, cell_later hb h.o6, cell_later hb h.o7, hb⟩

structure StatI (b : Nat) (w wx : World) : Prop where
  c0 : wx.cell? ⟨b, 0, none⟩ = some (.int .i64 0)
  c1 : wx.cell? ⟨b, 1, none⟩ = some (.int .i64 0)
  c2 : wx.cell? ⟨b, 2, none⟩ = some (.int .i64 0)
  c3 : wx.cell? ⟨b, 3, none⟩ = some (.int .i64 0)
  c4 : wx.cell? ⟨b, 4, none⟩ = some (.int .i64 0)
  fz : ∀ i, wx.frozen? ⟨b, i, none⟩ = false
  far : w.heap.size + 5 ≤ b

structure ResI (R vb : Nat) (wx : World) : Prop where
  c0 : wx.cell? ⟨R, 0, none⟩ = some (.string ⟨#[83, 65, 84, 73, 83, 70, 73, 65, 66, 76, 69]⟩)
  c1 : wx.cell? ⟨R, 1, none⟩ = some (.slice (some ⟨vb, 0, none⟩) 0 0)
  c2 : wx.cell? ⟨R, 2, none⟩ = some (.int .i64 0)
  c3 : wx.cell? ⟨R, 3, none⟩ = some (.int .i64 0)
  c4 : wx.cell? ⟨R, 4, none⟩ = some (.int .i64 0)
  c5 : wx.cell? ⟨R, 5, none⟩ = some (.int .i64 1)
  c6 : wx.cell? ⟨R, 6, none⟩ = some (.int .i64 0)

theorem later_drew {we w5 : World} (h : Below we.drew.heap.size we.drew w5) : Below we.heap.size we w5 := ⟨h.os, h.tape, h.output, h.size, h.block⟩

set_option maxRecDepth 100000 in
set_option maxHeartbeats 800000 in
theorem run_any (m n : Int) (nb : Nat) (fv : Value) (w : World) (h : w.cell? ⟨nb, 0, none⟩ = some (.slice none 0 0)) :
    Calls Yba.prog 15 #[.pointer (some ⟨nb, 0, none⟩), fv, .agg #[.int .i64 m, .int .i64 n]] w
      fun e w' => (∃ vb, e = .returned (.agg #[.string ⟨#[83, 65, 84, 73, 83, 70, 73, 65, 66, 76, 69]⟩, .slice (some ⟨vb, 0, none⟩) 0 0, .int .i64 0, .int .i64 0, .int .i64 0, .int .i64 1, .int .i64 0])) ∧ Below w.heap.size w w' := by
  have h1 := mk118
  have h2 := mk120
  have h3 := mk132
  have h4 := mk133
  have hlt : nb < w.heap.size := World.block_lt_of_cell? _ _ h
  go_enter Yba.func15, Yba.ntmps15
  go_wp2_with fail
  refine (len_any nb _ ?_).mono ?_
  · go_simp
  rintro e w' ⟨rfl, hw'⟩
  subst hw'
  go_wp2_with fail
  refine wp_loop_rounds 1 ?_
  rw [rounds_succ]
  go_wp2_with fail
  refine wp_loop_rounds 1 ?_
  rw [rounds_succ]
  go_upto_region 18 with fail
  go_cut [14] (fun s14 wx => (∃ v, s14 = v) ∧ RunI m n w wx)
  case first =>
    go_wp2_with fail
    go_meet
    refine ⟨⟨_, rfl⟩, ?_⟩
    constructor
    all_goals first | (go_simp; done) | (intro i; go_simp; done) | skip
    exact (((((((Below.refl _ _).alloc (Nat.le_refl _) _).alloc (by simp) _).alloc (by simp; omega) _).alloc (by simp; omega) _).alloc (by simp; omega) _).alloc (by simp; omega) _).alloc (by simp; omega) _
  case rest =>
  obtain ⟨⟨v14, rfl⟩, hI⟩ := hcut
  have l0 := hI.l0
  have l1 := hI.l1
  have o1 := hI.o1
  have o2 := hI.o2
  have o3 := hI.o3
  have o4 := hI.o4
  have o5 := hI.o5
  have o6 := hI.o6
  have o7 := hI.o7
  have hsz := hI.sz
  go_wp2_with fail
  refine wp_loop_rounds 1 ?_
  rw [rounds_succ]
  go_wp2_with fail
  go_quiet (fail)
  have hI' : RunI m n w (wc.drewN nq) := hI.later ⟨rfl, rfl, rfl, Nat.le_refl _, fun _ _ => rfl⟩
  generalize wc.drewN nq = wd at hI' ⊢
  clear l0 l1 o1 o2 o3 o4 o5 o6 o7 hsz hI h1 h2 h3 h4 h hlt
  have o3 := hI'.o3
  have o4 := hI'.o4
  have o5 := hI'.o5
  have o6 := hI'.o6
  have o7 := hI'.o7
  have hsz := hI'.sz
  go_upto_region 43 with fail
  go_cut [21] (fun s21 wx => ∃ sb, s21 = .pointer (some ⟨sb, 0, none⟩) ∧ StatI sb w wx ∧ RunI m n w wx)
  case first =>
    have hO : w.heap.size + 1 + 1 + 1 + 1 < wd.heap.size := by omega
    have hO1 : w.heap.size + 1 + 1 + 1 + 1 < wd.heap.size + 1 := by omega
    have hO2 : w.heap.size + 1 + 1 + 1 + 1 < wd.heap.size + 1 + 1 := by omega
    have hO3 : w.heap.size + 1 + 1 + 1 + 1 < wd.heap.size + 1 + 1 + 1 := by omega
    go_region_held3 (fun w' => KeepO w.heap.size wd w') ((refine keepO hI' ?_; repeat (first | exact Below.refl _ _ | refine Below.drew ?_ | refine Below.alloc ?_ (by simp; try omega) _ | refine Below.setCell ?_ (by simp) _))) (first | (go_at_call 30; refine (mstats_any _ _ _ ?_ ?_ ?_ ?_).mono ?_; go_simp; go_simp; go_simp; go_simp; rintro e w1 ⟨rfl, rfl⟩))
    all_goals
      go_wp2_with fail
      go_meet
      refine ⟨_, rfl, ⟨?_, ?_, ?_, ?_, ?_, ?_, ?_⟩, hI'.later (Below.mono (B := wd.heap.size) ?_ hsz)⟩
      · go_simp
      · go_simp
      · go_simp
      · go_simp
      · go_simp
      · intro i; go_simp
      · first | omega | (simp; omega)
      · repeat (first | exact Below.refl _ _ | refine Below.drew ?_ | refine Below.alloc ?_ (by simp; try omega) _ | refine Below.setCell ?_ (by simp) _)
  case rest =>
  obtain ⟨sb, rfl, hS, hJ⟩ := hcut
  clear o3 o4 o5 o6 o7 hsz hI'
  have hJ2 : RunI m n w (wc.setCell ⟨sb, 3, none⟩ (.int .i64 1)) := hJ.later ((Below.refl _ _).setCell hS.far _)
  have cz := hS.fz
  have c0 := hS.c0
  have c1 := hS.c1
  have c2 := hS.c2
  have c3 := hS.c3
  have c4 := hS.c4
  go_upto_region 45 with fail
  have d0 : (wc.setCell ⟨sb, 3, none⟩ (.int .i64 1)).cell? ⟨sb, 0, none⟩ = some (.int .i64 0) := by go_simp
  have d1 : (wc.setCell ⟨sb, 3, none⟩ (.int .i64 1)).cell? ⟨sb, 1, none⟩ = some (.int .i64 0) := by go_simp
  have d2 : (wc.setCell ⟨sb, 3, none⟩ (.int .i64 1)).cell? ⟨sb, 2, none⟩ = some (.int .i64 0) := by go_simp
  have d3 : (wc.setCell ⟨sb, 3, none⟩ (.int .i64 1)).cell? ⟨sb, 3, none⟩ = some (.int .i64 1) := by go_simp
  have d4 : (wc.setCell ⟨sb, 3, none⟩ (.int .i64 1)).cell? ⟨sb, 4, none⟩ = some (.int .i64 0) := by go_simp
  clear hJ c0 c1 c2 c3 c4 cz hS
  generalize wc.setCell ⟨sb, 3, none⟩ (.int .i64 1) = we at hJ2 d0 d1 d2 d3 d4 ⊢
  obtain ⟨v0, r0⟩ := hJ2.r0
  obtain ⟨v1, r1⟩ := hJ2.r1
  obtain ⟨v2, r2⟩ := hJ2.r2
  obtain ⟨v3, r3⟩ := hJ2.r3
  obtain ⟨v4, r4⟩ := hJ2.r4
  obtain ⟨v5, r5⟩ := hJ2.r5
  obtain ⟨v6, r6⟩ := hJ2.r6
  have hsz := hJ2.sz
  have hfz := hJ2.fz
  have l0 := hJ2.l0
  have l1 := hJ2.l1
  have o2 := hJ2.o2
  have hR : w.heap.size + 1 < we.heap.size := by omega
  have HB : Hid (Below w.heap.size w we) := hJ2.bel
  clear hJ2
  go_cut [] (fun wx => (∃ vb, ResI (w.heap.size + 1) vb wx) ∧ Below w.heap.size w wx)
  case first =>
    go_region_with (go_at_call 31; refine (conclude_any m n _ _).mono ?_; rintro e w5 ⟨⟨vb, rfl⟩, hb5'⟩; have hb5 := later_drew hb5'; have q0 := cell_later hb5 r0; have q1 := cell_later hb5 r1; have q2 := cell_later hb5 r2; have q3 := cell_later hb5 r3; have q4 := cell_later hb5 r4; have q5 := cell_later hb5 r5; have q6 := cell_later hb5 r6; have qf := fun i => (hb5.frozen (p := ⟨w.heap.size + 1, i, none⟩) hR).trans (hfz i); have qs := hb5.size)
    all_goals
      go_wp2_with fail
      go_meet
      refine ⟨⟨vb, ⟨?_, ?_, ?_, ?_, ?_, ?_, ?_⟩⟩, ?_⟩
      · go_simp
      · go_simp
      · go_simp
      · go_simp
      · go_simp
      · go_simp
      · go_simp
      · have hb0 := HB.out.trans (hb5.mono (Nat.le_trans (Nat.le_succ _) (Nat.le_of_lt hR)))
        exact ((((((hb0.setCell (Nat.le_succ _) _).setCell (Nat.le_succ _) _).setCell (Nat.le_succ _) _).setCell (Nat.le_succ _) _).setCell (Nat.le_succ _) _).setCell (Nat.le_succ _) _).setCell (Nat.le_succ _) _
  case rest =>
  obtain ⟨⟨vb, hV⟩, hbel⟩ := hcut
  have c0 := hV.c0
  have c1 := hV.c1
  have c2 := hV.c2
  have c3 := hV.c3
  have c4 := hV.c4
  have c5 := hV.c5
  have c6 := hV.c6
  go_wp2_with fail
  exact bodyPost_ret (v := .agg #[.string ⟨#[83, 65, 84, 73, 83, 70, 73, 65, 66, 76, 69]⟩, .slice (some ⟨vb, 0, none⟩) 0 0, .int .i64 0, .int .i64 0, .int .i64 0, .int .i64 1, .int .i64 0]) (by simp [results, Yba.results15, go_sem, c0, c1, c2, c3, c4, c5, c6]) rfl ⟨⟨_, rfl⟩, hbel⟩
end Go.Proofs.Ybulkclmc
