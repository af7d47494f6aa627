import Derived.Test.YbulkclmcBokK
namespace Go.Proofs.Ybulkclmc
open Go.RowKit

theorem Yba.info67b : (Yba.prog.info? 67).map (fun i => (i.zero, i.size, i.bytes)) = some (some (.agg #[.int .i64 0, .int .i64 0, .int .i64 0]), 3, 24) := by kernel_rfl

/-- a left-hand side that stands below B -/
structure MoreIn (B JA : Nat) (w : World) (mp : Option Addr) (mn : Nat) (f : Nat → As) : Prop where
  pos : 0 < mn → ∃ M, mp = some ⟨M, 0, none⟩ ∧ M < B ∧ ¬ M = JA ∧ ∀ i, i < mn * 3 → w.cell? ⟨M, i, none⟩ = some (asC f i)

theorem MoreIn.keeps {B JA : Nat} {w w' : World} {mp : Option Addr} {mn : Nat} {f : Nat → As} (h : MoreIn B JA w mp mn f) (k : Keeps (fun b => b = JA ∨ B ≤ b) w w') : MoreIn B JA w' mp mn f :=
  ⟨fun hn => by obtain ⟨M, e, h1, h2, hc⟩ := h.pos hn; exact ⟨M, e, h1, h2, fun i hi => k.cell (by show ¬ (M = JA ∨ B ≤ M); omega) (hc i hi)⟩⟩

structure JoinOut (JA na B : Nat) (sv : Value) (g : Nat → As) (n : Nat) (O : Nat → Option As) (w w' : World) : Prop where
  row : RowA w' B sv g n
  j : Joined na g n O
  z : Cells w' JA na (atC (fun _ => 0))
  kp : Keeps (fun b => b = JA ∨ B ≤ b) w w'

def JoinPost (JA na B : Nat) (O : Nat → Option As) (w : World) (e : Ending) (w' : World) : Prop := ∃ sv g n, e = .returned sv ∧ JoinOut JA na B sv g n O w w'

theorem keep1 (W : World) (V a : Nat) (x : Value) : Keeps (fun q => q = V) W (W.setCell ⟨V, a, none⟩ x) := (Keeps.refl (fun q => q = V) W).setCell (p := ⟨V, a, none⟩) (show V = V from rfl) x
theorem keep3 (W : World) (V a b c : Nat) (x y z : Value) : Keeps (fun q => q = V) W (((W.setCell ⟨V, a, none⟩ x).setCell ⟨V, b, none⟩ y).setCell ⟨V, c, none⟩ z) :=
  ((keep1 W V a x).trans (keep1 _ V b y)).trans (keep1 _ V c z)

theorem keeps_grown {w w' : World} {B n : Nat} {v : Value} {xs : List Value} (hown : w.ownsRow B 67 3 v n xs) (hg : w.grownBy w' v.ownBlock) : Keeps (fun b => B ≤ b) w w' :=
  ⟨hg.os, hg.tape, hg.output, hg.size, fun k hk hs => hg.block k hk (fun e => hs ((hown.lt k e.symm).1))⟩

theorem RowA.own {w : World} {B n : Nat} {sv : Value} {g : Nat → As} (h : RowA w B sv g n) : ∀ k, sv.ownBlock = some k → B ≤ k ∧ k < w.heap.size := by
  obtain ⟨xs, h, _, _⟩ := h
  exact h.lt

theorem RowA.grown {w : World} {B n R cap : Nat} {xs : List Value} {g : Nat → As} (x : As) (h : w.ownsRow B 67 3 (.slice (some ⟨R, 0, none⟩) (n + 1) cap) (n + 1) (xs ++ [.int .i64 x.k, .int .i64 x.v, .int .i64 x.t])) (hl : xs.length = n * 3) (hx : ∀ i, i < n * 3 → xs[i]? = some (asC g i)) : RowA w B (.slice (some ⟨R, 0, none⟩) (n + 1) cap) (Ybulkclmc.put g n x) (n + 1) := by
  refine ⟨_, h, fun i hi => ?_, fun h0 => by omega⟩
  by_cases e : i < n * 3
  · rw [List.getElem?_append_left (by omega), hx i e]
    simp only [asC, put_other g n x (show ¬ i / 3 = n by omega)]
  · rw [List.getElem?_append_right (by omega), hl]
    have : i = n * 3 ∨ i = n * 3 + 1 ∨ i = n * 3 + 2 := by omega
    rcases this with rfl | rfl | rfl
    · simp [asC0, Ybulkclmc.put]
    · simp [asC1, Ybulkclmc.put, show n * 3 + 1 - n * 3 = 1 by omega]
    · simp [asC2, Ybulkclmc.put, show n * 3 + 2 - n * 3 = 2 by omega]

theorem news3 (w : World) (a b c : Value) (t : Nat) : ∀ j u, [a, b, c][j]? = some u → (w.alloc (.cells #[a, b, c] t)).cell? ((⟨w.heap.size, 0, none⟩ : Addr).add j) = some u := by
  intro j u hu
  have : j = 0 ∨ j = 1 ∨ j = 2 ∨ 3 ≤ j := by omega
  rcases this with rfl | rfl | rfl | h
  · simp at hu; subst hu
    exact World.cell?_alloc_at _ _ _ 0 rfl
  · simp at hu; subst hu
    exact World.cell?_alloc_at _ _ _ 1 rfl
  · simp at hu; subst hu
    exact World.cell?_alloc_at _ _ _ 2 rfl
  · rw [List.getElem?_eq_none (by simpa using h)] at hu; cases hu

set_option maxRecDepth 100000 in
set_option maxHeartbeats 2000000 in
theorem join_any (AG JA na B mn mc : Nat) (sv : Value) (g : Nat → As) (n : Nat) (O : Nat → Option As) (mp : Option Addr) (f : Nat → As) (w : World)
    (hA : w.cell? ⟨AG, 26, none⟩ = some (.slice (some ⟨JA, 0, none⟩) na na)) (hZ : Cells w JA na (atC (fun _ => 0))) (hR : RowA w B sv g n) (hJ : Joined na g n O) (hM : MoreIn B JA w mp mn f) (hf : ∀ i, i < mn → (f i).k < na) (hmn : mn ≤ 300) (hna : na ≤ 6) (hJB : JA < B) (hB : B ≤ w.heap.size) :
    Calls Yba.prog 34 #[.pointer (some ⟨AG, 0, none⟩), sv, .slice mp mn mc] w fun e w' => JoinPost JA na B (fun k => bestTo k (O k) f mn) w e w' := by
  obtain ⟨i67, hi67, hz0, hz1, hz2⟩ := info_parts Yba.info67b
  obtain ⟨sp, sc, rfl⟩ := hR.val
  have hn := hJ.le
  have HI : Hid (RowA w B (.slice sp n sc) g n ∧ Joined na g n O ∧ MoreIn B JA w mp mn f ∧ (∀ i, i < mn → (f i).k < na) ∧ Cells w JA na (atC (fun _ => 0))) := ⟨hR, hJ, hM, hf, hZ⟩
  clear hR hJ hM hf hZ
  go_enter Yba.func34, Yba.ntmps34
  go_wp2_with fail
  go_loopw [21] (fun x wr => ∃ j : Nat, j ≤ n ∧ x = .int .i64 j ∧ ∃ a, AtOk na g j a ∧ Cells wr JA na (atC a) ∧ Keeps (fun b => b = JA) w wr) (fun x _ => n - (intOf x).toNat)
  case atStart => exact ⟨0, Nat.zero_le _, rfl, fun _ => 0, fun k _ => Or.inl ⟨rfl, fun i hi => by omega⟩, HI.out.2.2.2.2, Keeps.refl _ _⟩
  case round =>
    obtain ⟨j, hj, rfl, a, hAt, hC, hK⟩ := hrel
    by_cases hlt : j < n
    ·
      -- <A
      have hR := HI.out.1.keeps hK (fun b hb h => by omega)
      obtain ⟨R, cap, hv, hBR, hCR⟩ := hR.form (by omega)
      cases hv
      have c0 := hCR.cell (j * 3) (by omega)
      have c1 := hCR.cell (j * 3 + 1) (by omega)
      have c2 := hCR.cell (j * 3 + 2) (by omega)
      rw [asC0] at c0
      rw [asC1] at c1
      rw [asC2] at c2
      have hl := HI.out.2.1.lt j hlt
      have d0 := hC.cell _ hl
      have f0 := hC.free _ hl
      have hJl := hC.lt
      have HS : Hid (AtOk na g (j + 1) (put a (g j).k (j + 1)) ∧ Cells wr JA na (atC a) ∧ Keeps (fun b => b = JA) w wr) := ⟨hAt.step, hC, hK⟩
      clear hR hAt hC hK hCR
      have i1 : (0 : Int) ≤ (j : Int) := by omega
      have i2 : (j : Int) < (n : Int) := by omega
      have i3 : (0 : Int) ≤ ((g j).k : Int) := by omega
      have i4 : ((g j).k : Int) < (na : Int) := by omega
      generalize hgk : (g j).k = gk at *
      have e1 : ¬ wr.heap.size = JA := by omega
      have e2 : ¬ JA = wr.heap.size := by omega
      go_wp2_with fail
      go_roundw
      case rel => exact ⟨j + 1, by omega, by go_num, put a gk (j + 1), HS.out.1, (at_put HS.out.2.1 hl (j + 1)).alloc _, (HS.out.2.2.setCell (p := ⟨JA, gk, none⟩) rfl _).alloc _⟩
      case measure => simp [intOf]; omega
      -- A>
    · obtain rfl : n = j := by omega
      obtain ⟨W1, rfl⟩ : ∃ x, x = wr := ⟨wr, rfl⟩
      have hK1 : Keeps (fun b => b = JA ∨ B ≤ b) w W1 := hK.weak (fun _ h => Or.inl h)
      have HL : Hid (RowA W1 B (.slice sp n sc) g n ∧ AtOk na g n a ∧ Cells W1 JA na (atC a) ∧ Keeps (fun b => b = JA ∨ B ≤ b) w W1) := ⟨HI.out.1.keeps hK (fun b hb h => by omega), hAt, hC, hK1⟩
      clear hAt hC hK hK1
      go_wp2_with fail
      go_loopw [1, 35] (fun s1 x wr => ∃ j : Nat, j ≤ mn ∧ x = .int .i64 j ∧ ∃ sp n' sc g' a, s1 = .slice sp n' sc ∧ RowA wr B (.slice sp n' sc) g' n' ∧ Joined na g' n' (fun k => bestTo k (O k) f j) ∧ AtOk na g' n' a ∧ Cells wr JA na (atC a) ∧ Keeps (fun b => b = JA ∨ B ≤ b) w wr) (fun _ x _ => mn - (intOf x).toNat)
      case atStart => exact ⟨0, Nat.zero_le _, rfl, sp, n, sc, g, a, rfl, HL.out.1, HI.out.2.1, HL.out.2.1, HL.out.2.2.1, HL.out.2.2.2⟩
      case round =>
        clear HL
        obtain ⟨j, hj, rfl, sp2, n2, sc2, g2, a2, rfl, hR, hJ, hAt, hC, hK⟩ := hrel
        have hn2 := hJ.le
        have hwB : B ≤ wr.heap.size := Nat.le_trans hB hK.size
        by_cases hlt : j < mn
        ·
          -- <B
          obtain ⟨M, e, hMB, hMJ, hcM⟩ := (HI.out.2.2.1.keeps hK).pos (by omega)
          cases e
          have c0 := hcM (j * 3) (by omega)
          have c1 := hcM (j * 3 + 1) (by omega)
          have c2 := hcM (j * 3 + 2) (by omega)
          rw [asC0] at c0
          rw [asC1] at c1
          rw [asC2] at c2
          have hl := HI.out.2.2.2.1 j hlt
          have HB : Hid (∀ k, bestTo k (O k) f (j + 1) = bst k (bestTo k (O k) f j) (f j)) := fun k => rfl
          generalize hfx : f j = x at *
          obtain ⟨xk, xv, xt⟩ := x
          simp only at c0 c1 c2 hl
          have d0 := hC.cell _ hl
          have f0 := hC.free _ hl
          have hJl := hC.lt
          have i1 : (0 : Int) ≤ (j : Int) := by omega
          have i2 : (j : Int) < (mn : Int) := by omega
          have i3 : (0 : Int) ≤ (xk : Int) := by omega
          have i4 : (xk : Int) < (na : Int) := by omega
          have e1 : ¬ wr.heap.size = JA := by omega
          have e2 : ¬ JA = wr.heap.size := by omega
          rcases hAt xk hl with ⟨h0, hno⟩ | ⟨i, hi, h0, hik⟩
          · simp only [atC, h0] at d0
            have HS : Hid (RowA wr B (.slice sp2 n2 sc2) g2 n2 ∧ Joined na g2 n2 (fun k => bestTo k (O k) f j) ∧ AtOk na g2 n2 a2 ∧ Cells wr JA na (atC a2) ∧ Keeps (fun b => b = JA ∨ B ≤ b) w wr ∧ ∀ i, i < n2 → ¬ (g2 i).k = xk) := ⟨hR, hJ, hAt, hC, hK, hno⟩
            clear hR hJ hAt hC hK hcM hno
            go_upto_region 12 with fail
            have hown0 := HS.out.1.own
            have hbT : Below wr.heap.size wr (wr.alloc (.cells #[.int .i64 xk, .int .i64 xv, .int .i64 xt] 67)) := bl_new (Below.refl _ _) _
            have t0 : (wr.alloc (.cells #[.int .i64 xk, .int .i64 xv, .int .i64 xt] 67)).cell? ⟨wr.heap.size, 0, none⟩ = some (.int .i64 xk) := World.cell?_alloc_at _ _ _ 0 rfl
            have t1 : (wr.alloc (.cells #[.int .i64 xk, .int .i64 xv, .int .i64 xt] 67)).cell? ⟨wr.heap.size, 1, none⟩ = some (.int .i64 xv) := World.cell?_alloc_at _ _ _ 1 rfl
            have t2 : (wr.alloc (.cells #[.int .i64 xk, .int .i64 xv, .int .i64 xt] 67)).cell? ⟨wr.heap.size, 2, none⟩ = some (.int .i64 xt) := World.cell?_alloc_at _ _ _ 2 rfl
            have d0' := cell_later hbT d0
            have hTs : wr.heap.size < (wr.alloc (.cells #[.int .i64 xk, .int .i64 xv, .int .i64 xt] 67)).heap.size := World.block_lt_of_cell? _ _ t0
            have ff0 := (hbT.frozen (p := ⟨JA, xk, none⟩) hJl).trans f0
            clear c0 c1 c2 d0 f0
            generalize wr.alloc (.cells #[.int .i64 xk, .int .i64 xv, .int .i64 xt] 67) = T at *
            have hbU : Below T.heap.size T (T.alloc (.cells #[.int .i64 xk, .int .i64 xv, .int .i64 xt] 67)) := bl_new (Below.refl _ _) _
            have hbW : Below wr.heap.size wr (T.alloc (.cells #[.int .i64 xk, .int .i64 xv, .int .i64 xt] 67)) := bl_then hbU hbT
            obtain ⟨xs, hown, hxs, _⟩ := HS.out.1.later hbW
            have hnew := news3 T (.int .i64 xk) (.int .i64 xv) (.int .i64 xt) 67
            have hone : ∀ u ∈ [Value.int .i64 xk, Value.int .i64 xv, Value.int .i64 xt], u.oneCell' = true := by
              intro u hu
              simp at hu
              rcases hu with rfl | rfl | rfl <;> rfl
            have u0 := cell_later hbU t0
            have d1 := cell_later hbU d0'
            have ff1 := (hbU.frozen (p := ⟨JA, xk, none⟩) (by show JA < T.heap.size; omega)).trans ff0
            have hJl2 : JA < (T.alloc (.cells #[.int .i64 xk, .int .i64 xv, .int .i64 xt] 67)).heap.size := World.block_lt_of_cell? _ _ d1
            have hTB : B ≤ T.heap.size := by omega
            have HX : Hid (xs.length = n2 * 3 ∧ ∀ i, i < n2 * 3 → xs[i]? = some (asC g2 i)) := ⟨hown.1, hxs⟩
            have HOwn : Hid ((T.alloc (.cells #[.int .i64 xk, .int .i64 xv, .int .i64 xt] 67)).ownsRow B 67 3 (.slice sp2 n2 sc2) n2 xs) := hown
            have HN : Hid (∀ j u, [Value.int .i64 xk, Value.int .i64 xv, Value.int .i64 xt][j]? = some u → (T.alloc (.cells #[.int .i64 xk, .int .i64 xv, .int .i64 xt] 67)).cell? ((⟨T.heap.size, 0, none⟩ : Addr).add j) = some u) := hnew
            have HO : Hid (∀ u ∈ [Value.int .i64 xk, Value.int .i64 xv, Value.int .i64 xt], u.oneCell' = true) := hone
            have hne : some wr.heap.size ≠ (Value.slice sp2 n2 sc2).ownBlock := fun h => by have := (hown0 _ h.symm).2; omega
            have hne2 : some JA ≠ (Value.slice sp2 n2 sc2).ownBlock := fun h => by have := (hown0 _ h.symm).1; omega
            have HE : Hid (some wr.heap.size ≠ (Value.slice sp2 n2 sc2).ownBlock ∧ some JA ≠ (Value.slice sp2 n2 sc2).ownBlock) := ⟨hne, hne2⟩
            clear hnew hone hown hxs hown0 hne hne2 d0'
            have hm : n2 + 1 ≤ maxLen := by unfold maxLen; omega
            have hby : (n2 + 1) * 24 ≤ 140737488355328 := by omega
            go_wp2_with (first | (at_builtin; refine wpList_append_lies _ rfl (.tmp 48) (.tmp 50) 42 rfl B 67 i67 (.agg #[.int .i64 0, .int .i64 0, .int .i64 0]) 3 24 Yba.underlying42 hi67 hz0 hz1 hz2 rfl (by decide) (.slice sp2 n2 sc2) n2 xs rfl HOwn.out ⟨T.heap.size, 0, none⟩ 1 1 [.int .i64 xk, .int .i64 xv, .int .i64 xt] rfl rfl HN.out HO.out (by decide) hm hby (by simp; omega) (T.heap.size + 1) (by simp) ?_; intro R2 cap2 w2 hown2 hgrow2 hlies hg2; have u1 := hgrow2.cell u0 HE.out.1; have d2 := hgrow2.cell d1 HE.out.2; have ff2 := (hgrow2.frozen_far ⟨JA, xk, none⟩ hJl2 HE.out.2).trans ff1) | fail)
            go_roundw
            case rel =>
              have hkg := keeps_grown HOwn.out hgrow2
              have hK2 : Keeps (fun b => b = JA) w2 (w2.setCell ⟨JA, xk, none⟩ (.int .i64 ((n2 + 1 : Nat) : Int))) := keep1 _ _ _ _
              refine ⟨j + 1, by omega, by go_num, some ⟨R2, 0, none⟩, n2 + 1, cap2, put g2 n2 ⟨xk, xv, xt⟩, put a2 xk (n2 + 1), rfl, ?_, (HS.out.2.1.append ⟨xk, xv, xt⟩ hl HS.out.2.2.2.2.2).congr (fun k _ => (HB.out k).symm), HS.out.2.2.1.append ⟨xk, xv, xt⟩, ?_, ?_⟩
              · exact (RowA.grown ⟨xk, xv, xt⟩ hown2 HX.out.1 HX.out.2).keeps hK2 (fun b hb h => by omega)
              · exact at_put (hkg.cells (by omega) (HS.out.2.2.2.1.later hbW)) hl (n2 + 1)
              · exact ((HS.out.2.2.2.2.1.trans (Keeps.of_below hbW)).trans (hkg.weak (fun _ h => Or.inr h))).trans (hK2.weak (fun _ h => Or.inl h))
            case measure => simp [intOf]; omega
          · simp only [atC, h0] at d0
            obtain ⟨R, cap, hv, hBR, hCR⟩ := hR.form (by omega)
            cases hv
            have r0 := hCR.cell (i * 3) (by omega)
            have r1 := hCR.cell (i * 3 + 1) (by omega)
            have r2 := hCR.cell (i * 3 + 2) (by omega)
            rw [asC0, hik] at r0
            rw [asC1] at r1
            rw [asC2] at r2
            have g0 := hCR.free (i * 3) (by omega)
            have g1 := hCR.free (i * 3 + 1) (by omega)
            have g2' := hCR.free (i * 3 + 2) (by omega)
            have hRl := hCR.lt
            have e3 : ¬ wr.heap.size = R := by omega
            have e4 : ¬ R = wr.heap.size := by omega
            have i5 : (0 : Int) ≤ (i : Int) := by omega
            have i6 : (i : Int) < (n2 : Int) := by omega
            have i7 : IntKind.i64.wrap (((i + 1 : Nat) : Int) - 1) = (i : Int) := by simp [IntKind.wrap, IntKind.signed, IntKind.bits]; omega
            have i8 : decide ((i : Int) < 0) = false := by simp
            have HS : Hid (RowA wr B (.slice (some ⟨R, 0, none⟩) n2 sc2) g2 n2 ∧ Joined na g2 n2 (fun k => bestTo k (O k) f j) ∧ AtOk na g2 n2 a2 ∧ Cells wr JA na (atC a2) ∧ Keeps (fun b => b = JA ∨ B ≤ b) w wr) := ⟨hR, hJ, hAt, hC, hK⟩
            clear hR hJ hAt hC hK hcM hCR
            have hbT : Below wr.heap.size wr (wr.alloc (.cells #[.int .i64 xk, .int .i64 xv, .int .i64 xt] 67)) := bl_new (Below.refl _ _) _
            go_upto_region 14 with fail
            by_cases ht : (g2 i).t < xt
            · have k1 : decide ((g2 i).t < xt) = true := by simp [ht]
              go_quiet (fail)
              go_wp2_with fail
              go_roundw
              case rel =>
                have hbD := bl_drewN hbT nq
                have k3 := keep3 ((wr.alloc (.cells #[.int .i64 xk, .int .i64 xv, .int .i64 xt] 67)).drewN nq) R (i * 3) (i * 3 + 1) (i * 3 + 2) (.int .i64 xk) (.int .i64 xv) (.int .i64 xt)
                refine ⟨j + 1, by omega, by go_num, some ⟨R, 0, none⟩, n2, sc2, put g2 i ⟨xk, xv, xt⟩, a2, rfl, (HS.out.1.later hbD).put hi ⟨xk, xv, xt⟩, (HS.out.2.1.put ⟨xk, xv, xt⟩ hi hik ht).congr (fun k _ => (HB.out k).symm), HS.out.2.2.1.put ⟨xk, xv, xt⟩ hik, k3.cells (by omega) (HS.out.2.2.2.1.later hbD), ?_⟩
                exact (HS.out.2.2.2.2.trans (Keeps.of_below hbD)).trans (k3.weak (fun b h => Or.inr (by rw [h]; exact hBR)))
              case measure => simp [intOf]; omega
            · have k1 : decide ((g2 i).t < xt) = false := by simp; omega
              go_quiet (fail)
              go_wp2_with fail
              go_roundw
              case rel =>
                refine ⟨j + 1, by omega, by go_num, some ⟨R, 0, none⟩, n2, sc2, g2, a2, rfl, HS.out.1.later (bl_drewN hbT _), (HS.out.2.1.keep ⟨xk, xv, xt⟩ hi hik ht).congr (fun k _ => (HB.out k).symm), HS.out.2.2.1, HS.out.2.2.2.1.later (bl_drewN hbT _), HS.out.2.2.2.2.trans (Keeps.of_below (bl_drewN hbT _))⟩
              case measure => simp [intOf]; omega
          -- B>
        · obtain rfl : mn = j := by omega
          obtain ⟨W2, rfl⟩ : ∃ x, x = wr := ⟨wr, rfl⟩
          have HS : Hid (RowA W2 B (.slice sp2 n2 sc2) g2 n2 ∧ Joined na g2 n2 (fun k => bestTo k (O k) f mn) ∧ AtOk na g2 n2 a2 ∧ Cells W2 JA na (atC a2) ∧ Keeps (fun b => b = JA ∨ B ≤ b) w W2) := ⟨hR, hJ, hAt, hC, hK⟩
          clear hR hJ hAt hC hK
          go_wp2_with fail
          go_loopw [74] (fun x wr => ∃ j : Nat, j ≤ n2 ∧ x = .int .i64 j ∧ ∃ a, AtClr na g2 n2 j a ∧ Cells wr JA na (atC a) ∧ Keeps (fun b => b = JA) W2 wr) (fun x _ => n2 - (intOf x).toNat)
          case atStart => exact ⟨0, Nat.zero_le _, rfl, a2, HS.out.2.2.1.clr, HS.out.2.2.2.1, Keeps.refl _ _⟩
          case round =>
            obtain ⟨j, hj, rfl, a, hAt, hC, hK⟩ := hrel
            by_cases hlt : j < n2
            · have hR := HS.out.1.keeps hK (fun b hb h => by omega)
              obtain ⟨R, cap, hv, hBR, hCR⟩ := hR.form (by omega)
              cases hv
              have c0 := hCR.cell (j * 3) (by omega)
              have c1 := hCR.cell (j * 3 + 1) (by omega)
              have c2 := hCR.cell (j * 3 + 2) (by omega)
              rw [asC0] at c0
              rw [asC1] at c1
              rw [asC2] at c2
              have hl := HS.out.2.1.lt j hlt
              have d0 := hC.cell _ hl
              have f0 := hC.free _ hl
              have hJl := hC.lt
              have HT : Hid (AtClr na g2 n2 (j + 1) (put a (g2 j).k 0) ∧ Cells wr JA na (atC a) ∧ Keeps (fun b => b = JA) W2 wr) := ⟨hAt.step, hC, hK⟩
              clear hR hAt hC hK hCR
              have i1 : (0 : Int) ≤ (j : Int) := by omega
              have i2 : (j : Int) < (n2 : Int) := by omega
              have i3 : (0 : Int) ≤ ((g2 j).k : Int) := by omega
              have i4 : ((g2 j).k : Int) < (na : Int) := by omega
              generalize hgk : (g2 j).k = gk at *
              have e1 : ¬ wr.heap.size = JA := by omega
              have e2 : ¬ JA = wr.heap.size := by omega
              go_wp2_with fail
              go_roundw
              case rel => exact ⟨j + 1, by omega, by go_num, put a gk 0, HT.out.1, (at_put HT.out.2.1 hl 0).alloc _, (HT.out.2.2.setCell (p := ⟨JA, gk, none⟩) rfl _).alloc _⟩
              case measure => simp [intOf]; omega
            · obtain rfl : n2 = j := by omega
              go_wp2_with fail
              go_ret
              exact ⟨_, g2, n2, rfl, HS.out.1.keeps hK (fun b hb h => by omega), HS.out.2.1, hC.congr (fun k hk => by simp only [atC]; rw [hAt.done k hk]), HS.out.2.2.2.2.trans (hK.weak (fun _ h => Or.inl h))⟩
end Go.Proofs.Ybulkclmc
