import Derived.Test.YbulkclmcLrnG
namespace Go.Proofs.Ybulkclmc
open Go.RowKit

theorem Yba.info60' : (Yba.prog.info? 60).map (fun i => (i.zero, i.size, i.bytes)) = some (some (.agg #[.slice none 0 0, .bool false]), 2, 32) := by kernel_rfl

set_option maxRecDepth 1000000 in
set_option maxHeartbeats 4000000 in
theorem lrn_walk (id : Nat) (a0 v t : Int) (p1 p2 p3 : Option Addr) (n1 c1 n2 c2 n3 c3 : Nat) (va vt vp : Nat → Int) (vk : Nat → Bool) (L : Nat → Lhs) (has : Nat → Bool) (pr : Nat → Bool) (M : Nat → Lhs) (sz : Nat → Int) (w : World)
    (h0 : 0 < n1) (h1 : n1 ≤ 1024) (h2 : n2 ≤ 1024) (h3 : n3 ≤ 1024) (hid : id ≤ 255) (hI : LrnIn p1 p2 p3 n1 n2 n3 va vt vp vk L has pr M sz w) :
    Calls Yba.prog 3 #[.int .u8 id, .slice p1 n1 c1, .slice p2 n2 c2, .slice p3 n3 c3, .agg #[.int .i64 a0, .int .i64 v, .int .i64 t]] w fun e w' => e = .returned (.bool true) ∧ Below w.heap.size w w' := by
  have HI : Hid (LrnIn p1 p2 p3 n1 n2 n3 va vt vp vk L has pr M sz w) := hI
  clear hI
  have g1 : ((n1 : Int) == 0) = false := by simp; omega
  have g2 : decide ((1024 : Int) < (n1 : Int)) = false := by simp; omega
  have g3 : decide ((1024 : Int) < (n2 : Int)) = false := by simp; omega
  have g4 : decide ((1024 : Int) < (n3 : Int)) = false := by simp; omega
  go_enter Yba.func3, Yba.ntmps3
  go_wp2_with fail
  have hb0 : Below w.heap.size w (w.alloc (Obj.cells #[Value.int IntKind.i64 a0, Value.int IntKind.i64 v, Value.int IntKind.i64 t] 26)) := (Below.refl _ _).alloc (Nat.le_refl _) _
  have s0 : (w.alloc (Obj.cells #[Value.int IntKind.i64 a0, Value.int IntKind.i64 v, Value.int IntKind.i64 t] 26)).cell? ⟨w.heap.size, 0, none⟩ = some (.int .i64 a0) := World.cell?_alloc_at _ _ _ 0 rfl
  have s1 : (w.alloc (Obj.cells #[Value.int IntKind.i64 a0, Value.int IntKind.i64 v, Value.int IntKind.i64 t] 26)).cell? ⟨w.heap.size, 1, none⟩ = some (.int .i64 v) := World.cell?_alloc_at _ _ _ 1 rfl
  have s2 : (w.alloc (Obj.cells #[Value.int IntKind.i64 a0, Value.int IntKind.i64 v, Value.int IntKind.i64 t] 26)).cell? ⟨w.heap.size, 2, none⟩ = some (.int .i64 t) := World.cell?_alloc_at _ _ _ 2 rfl
  generalize w.alloc (Obj.cells #[Value.int IntKind.i64 a0, Value.int IntKind.i64 v, Value.int IntKind.i64 t] 26) = W0 at *
  clear g1 g2 g3 g4
  have hsz0 : w.heap.size < W0.heap.size := World.block_lt_of_cell? _ _ s0
  go_loopw [54] (fun x wr => ∃ k : Nat, k ≤ n2 ∧ x = .int .i64 k ∧ (∀ i, i < k → (L i).n ≤ 1024) ∧ Below W0.heap.size W0 wr) (fun x _ => n2 - (intOf x).toNat)
  case atStart => exact ⟨0, Nat.zero_le _, rfl, fun i hi => by omega, Below.refl _ _⟩
  case round =>
    obtain ⟨k, hk, rfl, hLn, hb⟩ := hrel
    by_cases hlt : k < n2
    ·
      -- <A
      obtain ⟨b, o, e, hc⟩ := HI.out.s (by omega)
      cases e
      have hbw : Below w.heap.size w wr := hb0.trans (hb.mono hb0.size)
      obtain ⟨c0, c1⟩ := hc k hlt
      have c0' := cell_later hbw c0
      have c1' := cell_later hbw c1
      have hm := (HI.out.sl k hlt).2
      have hk1 : (L k).n ≤ 1024 → ∀ i, i < k + 1 → (L i).n ≤ 1024 := fun h i hi => by
        by_cases e : i = k
        · subst e; exact h
        · exact hLn i (by omega)
      have HK : Hid ((L k).n ≤ 1024 → ∀ i, i < k + 1 → (L i).n ≤ 1024) := hk1
      clear hk1 hLn hc c0 c1
      generalize L k = x at *
      obtain ⟨lp, ln, lc, lf⟩ := x
      simp only [Lhs.val] at c0' hm
      by_cases hl : 1024 < ln
      · go_wp2
        go_ret
        exact ⟨rfl, hbw.alloc hbw.size _⟩
      · go_wp2
        go_roundw
        case rel => exact ⟨k + 1, by omega, by go_num, HK.out (show ln ≤ 1024 by omega), hb.alloc hb.size _⟩
        case measure => simp [intOf]; omega
      -- A>
    · obtain rfl : n2 = k := by omega
      obtain ⟨W1, rfl⟩ : ∃ W1, W1 = wr := ⟨wr, rfl⟩
      have HL : Hid (∀ i, i < n2 → (L i).n ≤ 1024) := hLn
      clear hLn
      go_wp2_with fail
      go_loopw [65] (fun x wr => ∃ k : Nat, k ≤ n3 ∧ x = .int .i64 k ∧ (∀ i, i < k → (M i).n ≤ 1024) ∧ Below W0.heap.size W0 wr) (fun x _ => n3 - (intOf x).toNat)
      case atStart => exact ⟨0, Nat.zero_le _, rfl, fun i hi => by omega, hb⟩
      case round =>
        clear hb
        obtain ⟨k, hk, rfl, hMn, hb⟩ := hrel
        by_cases hlt : k < n3
        ·
          -- <B
          obtain ⟨b, o, e, hc⟩ := HI.out.x (by omega)
          cases e
          have hbw : Below w.heap.size w wr := hb0.trans (hb.mono hb0.size)
          obtain ⟨c0, c1, c2⟩ := hc k hlt
          have c0' := cell_later hbw c0
          have c1' := cell_later hbw c1
          have c2' := cell_later hbw c2
          have hm := (HI.out.xl k hlt).2
          have hk1 : (M k).n ≤ 1024 → ∀ i, i < k + 1 → (M i).n ≤ 1024 := fun h i hi => by
            by_cases e : i = k
            · subst e; exact h
            · exact hMn i (by omega)
          have HK : Hid ((M k).n ≤ 1024 → ∀ i, i < k + 1 → (M i).n ≤ 1024) := hk1
          clear hk1 hMn hc c0 c1 c2
          generalize M k = x at *
          obtain ⟨lp, ln, lc, lf⟩ := x
          simp only [Lhs.val] at c1' hm
          by_cases hl : 1024 < ln
          · go_wp2
            go_ret
            exact ⟨rfl, hbw.alloc hbw.size _⟩
          · go_wp2
            go_roundw
            case rel => exact ⟨k + 1, by omega, by go_num, HK.out (show ln ≤ 1024 by omega), hb.alloc hb.size _⟩
            case measure => simp [intOf]; omega
          -- B>
        · obtain rfl : n3 = k := by omega
          obtain ⟨W2, rfl⟩ : ∃ W2, W2 = wr := ⟨wr, rfl⟩
          have HM : Hid (∀ i, i < n3 → (M i).n ≤ 1024) := hMn
          clear hMn
          have hme : id % n1 < n1 := Nat.mod_lt _ h0
          have enM : (id : Int) % (n1 : Int) = ((id % n1 : Nat) : Int) := by rw [Int.natCast_emod]
          obtain ⟨me, hmeE⟩ : ∃ m, m = id % n1 := ⟨_, rfl⟩
          rw [← hmeE] at hme enM
          clear hmeE
          have s0' := cell_later hb s0
          go_wp2_with fail
          refine (aag_any a0 n1 W2 h0 h1).mono ?_
          rintro e wq ⟨rfl, rfl⟩
          have hag := aagV_lt a0 h0
          generalize aagV a0 n1 = ag at *
          go_upto_region 18 with fail
          have hmk34 := make34 n1 h1
          have hmk35 := run_make_row' (P := Yba.prog) 35 21 (.int .i32 0) 4 Yba.underlying35 Yba.info21 rfl .i64 .i64 n1 (by omega) (by omega)
          have hmk36 := run_make_row' (P := Yba.prog) 36 61 (.pointer none) 8 Yba.underlying36 Yba.info61 rfl .i64 .i64 n1 (by omega) (by omega)
          go_cut [18] from 82 to 91 (fun s18 wx => ∃ AG V FA EX, s18 = .pointer (some ⟨AG, 0, none⟩) ∧ Cells wx AG 50 (fun i => (agArr me n1 V FA EX)[i]!) ∧ (Cells wx V (n1 * 4) (vwOf (fun _ => 0) (fun _ => 0) (fun _ => 0) (fun _ => false)) ∧ wq.heap.size ≤ V ∧ V < AG) ∧ (Cells wx FA n1 (fun _ => .int .i32 0) ∧ wq.heap.size ≤ FA ∧ FA < AG) ∧ (Cells wx EX n1 (exOf (fun _ => none)) ∧ wq.heap.size ≤ EX ∧ EX < AG) ∧ Below wq.heap.size wq wx)
          case first =>
            -- <C
            refine wp_region_rel (n := 11) (by kernel_rfl) (plain_of (show plainB _ 11 427 = true from by decide)) (R18 wq.heap.size n1 me) R18_stable ?_ ?_
            · intro i o ho a wz hbz hev hR
              have e16 : a.eval (.tmp 16) = .int .i64 me := hev 16 (by decide)
              have e11 : a.eval (.tmp 11) = .int .i64 n1 := hev 11 (by decide)
              clear hev
              have hi : i < 11 := (Array.getElem?_eq_some_iff.1 ho).1
              have hc : i = 0 ∨ i = 1 ∨ i = 2 ∨ i = 3 ∨ i = 4 ∨ i = 5 ∨ i = 6 ∨ i = 7 ∨ i = 8 ∨ i = 9 ∨ i = 10 := by omega
              rcases hc with rfl | rfl | rfl | rfl | rfl | rfl | rfl | rfl | rfl | rfl | rfl
              · cases ho
                exact ⟨_, wz, by simp [execOp, e16], Below.refl _ _, rfl⟩
              · cases ho
                exact ⟨_, wz, by simp [execOp, e11], Below.refl _ _, rfl⟩
              · cases ho
                exact ⟨_, wz, by simp [execOp, e11], Below.refl _ _, rfl⟩
              · cases ho
                have f : a.eval (.tmp 84) = .int .i64 n1 := hR ⟨2, .data⟩ (by simp) rfl 84 rfl
                refine ⟨.slice (some ⟨wz.heap.size, 0, none⟩) n1 n1, wz.alloc (.cells (madeCells #[.int .i64 0, .int .i64 0, .int .i64 0, .bool false] (n1 * 4)) 57), ?_, (Below.refl _ _).alloc (Nat.le_refl _) _, wz.heap.size, rfl, (cells_made _ _ _ _).congr ?_, hbz.size⟩
                · simp [Act.eval] at f
                  simp [execOp, f, hmk34, go_sem]
                · intro i _
                  have : i % 4 = 0 ∨ i % 4 = 1 ∨ i % 4 = 2 ∨ i % 4 = 3 := by omega
                  rcases this with e | e | e | e <;> simp [vwOf, e]
              · cases ho
                exact ⟨_, wz, by simp [execOp, e11], Below.refl _ _, rfl⟩
              · cases ho
                have f : a.eval (.tmp 86) = .int .i64 n1 := hR ⟨4, .data⟩ (by simp) rfl 86 rfl
                refine ⟨.slice (some ⟨wz.heap.size, 0, none⟩) n1 n1, wz.alloc (.cells (madeCells #[.int .i32 0] n1) 21), ?_, (Below.refl _ _).alloc (Nat.le_refl _) _, wz.heap.size, rfl, (cells_made _ _ _ _).congr ?_, hbz.size⟩
                · simp [Act.eval] at f
                  simp [execOp, f, hmk35, go_sem]
                · intro i _
                  simp [Nat.mod_one]
              · cases ho
                exact ⟨_, wz, by simp [execOp, e11], Below.refl _ _, rfl⟩
              · cases ho
                have f : a.eval (.tmp 88) = .int .i64 n1 := hR ⟨6, .data⟩ (by simp) rfl 88 rfl
                refine ⟨.slice (some ⟨wz.heap.size, 0, none⟩) n1 n1, wz.alloc (.cells (madeCells #[.pointer none] n1) 61), ?_, (Below.refl _ _).alloc (Nat.le_refl _) _, wz.heap.size, rfl, (cells_made _ _ _ _).congr ?_, hbz.size⟩
                · simp [Act.eval] at f
                  simp [execOp, f, hmk36, go_sem]
                · intro i _
                  simp [Nat.mod_one, exOf, ptr]
              · cases ho
                have f0 : a.eval (.tmp 82) = .int .i64 me := hR ⟨0, .data⟩ (by simp) rfl 82 rfl
                have f1 : a.eval (.tmp 83) = .int .i64 n1 := hR ⟨1, .data⟩ (by simp) rfl 83 rfl
                obtain ⟨V, f3, hV, hV2⟩ : R18 wq.heap.size n1 me 3 (a.eval (.tmp 85)) wz := hR ⟨3, .data⟩ (by simp) rfl 85 rfl
                obtain ⟨FA, f5, hF, hF2⟩ : R18 wq.heap.size n1 me 5 (a.eval (.tmp 87)) wz := hR ⟨5, .data⟩ (by simp) rfl 87 rfl
                obtain ⟨EX, f7, hE, hE2⟩ : R18 wq.heap.size n1 me 7 (a.eval (.tmp 89)) wz := hR ⟨7, .data⟩ (by simp) rfl 89 rfl
                refine ⟨.agg (agArr me n1 V FA EX), wz, ?_, Below.refl _ _, V, FA, EX, rfl, ⟨hV, hV2⟩, ⟨hF, hF2⟩, hE, hE2⟩
                simp [Act.eval] at f0 f1 f3 f5 f7
                simp [execOp, f0, f1, f3, f5, f7, go_sem, agArr]
              · cases ho
                obtain ⟨V, FA, EX, f, ⟨hV, hV2⟩, ⟨hF, hF2⟩, hE, hE2⟩ : R18 wq.heap.size n1 me 8 (a.eval (.tmp 90)) wz := hR ⟨8, .data⟩ (by simp) rfl 90 rfl
                have hal : Below wz.heap.size wz (wz.alloc (.cells (agArr me n1 V FA EX) 53)) := (Below.refl _ _).alloc (Nat.le_refl _) _
                refine ⟨.pointer (some ⟨wz.heap.size, 0, none⟩), wz.alloc (.cells (agArr me n1 V FA EX) 53), ?_, hal, wz.heap.size, V, FA, EX, rfl, cells_new wz (agArr me n1 V FA EX) 53, ⟨hV.later hal, hV2, hV.lt⟩, ⟨hF.later hal, hF2, hF.lt⟩, hE.later hal, hE2, hE.lt⟩
                simp [Act.eval] at f
                simp [execOp, f, go_sem, Value.cells]
              · cases ho
                have hx : R18 wq.heap.size n1 me 9 (a.eval (.tmp 91)) wz := hR ⟨9, .data⟩ (by simp) rfl 91 rfl
                exact ⟨a.eval (.tmp 91), wz, by simp [execOp], Below.refl _ _, hx⟩
            · intro x wz hbz hx
              obtain ⟨AG, V, FA, EX, f, hag0, hV, hF, hE⟩ : R18 wq.heap.size n1 me 10 (x 10) wz := hx 10 (by omega)
              simp only [chainAll, Act.put]
              simp
              go_wp2_with fail
              go_meet
              exact ⟨AG, V, FA, EX, by first | rfl | exact f, hag0, hV, hF, hE, hbz⟩
            -- C>
          case rest =>
          obtain ⟨AG, V, FA, EX, rfl, hAg, ⟨hV, hV2, hV3⟩, ⟨hF, hF2, hF3⟩, ⟨hE, hE2, hE3⟩, hbc⟩ := hcut
          clear hmk34 hmk35 hmk36
          have hbw : Below w.heap.size w wc := (hb0.trans (hb.mono hb0.size)).trans (hbc.mono (Nat.le_trans hb0.size hb.size))
          have hQ : w.heap.size < wq.heap.size := Nat.lt_of_lt_of_le hsz0 hb.size
          have n0 := hV.cell 0 (by omega)
          have n1' := hF.cell 0 (by omega)
          have n2' := hE.cell 0 (by omega)
          have hVF : ¬ V = FA := fun h => by rw [h, n1'] at n0; simp [vwOf] at n0
          have hVE : ¬ V = EX := fun h => by rw [h, n2'] at n0; simp [vwOf, exOf, ptr] at n0
          have hFE : ¬ FA = EX := fun h => by rw [h, n2'] at n1'; simp [exOf, ptr] at n1'
          have hAGl := hAg.lt
          have HM2 : Hid (Cells wc AG 50 (fun i => (agArr me n1 V FA EX)[i]!) ∧ Cells wc EX n1 (exOf (fun _ => none)) ∧ Below w.heap.size w wc) := ⟨hAg, hE, hbw⟩
          have a10 := hAg.cell 10 (by omega)
          have a4 := hAg.cell 4 (by omega)
          simp only [agArr] at a10 a4
          simp at a10 a4
          have q0 := cell_later hbc (cell_later hb s0)
          have q1 := cell_later hbc (cell_later hb s1)
          have q2 := cell_later hbc (cell_later hb s2)
          have HV0 : Hid (Cells wc V (n1 * 4) (vwOf (toF 0 va 0) (toF 0 vt 0) (toF 0 vp 0) (toF false vk 0)) ∧ Cells wc FA n1 (fun i => .int .i32 (toF 0 (fun _ => -1) 0 i))) := ⟨by rw [toF_zero, toF_zero, toF_zero, toF_zero]; exact hV, by rw [toF_zero]; exact hF⟩
          clear n0 n1' n2' hV hF hE hAg hbc s0 s1 s2 s0' hb0 hb hsz0
          go_wp2_with fail
          go_loopw [19] (fun x wr => ∃ k : Nat, k ≤ n1 ∧ x = .int .i64 k ∧ Cells wr V (n1 * 4) (vwOf (toF 0 va k) (toF 0 vt k) (toF 0 vp k) (toF false vk k)) ∧ Cells wr FA n1 (fun i => .int .i32 (toF 0 (fun _ => -1) k i)) ∧ Keeps (fun b => b = V ∨ b = FA) wc wr) (fun x _ => n1 - (intOf x).toNat)
          case atStart => exact ⟨0, Nat.zero_le _, rfl, HV0.out.1, HV0.out.2, Keeps.refl _ _⟩
          case round =>
            obtain ⟨k, hk, rfl, hCV, hCF, hKr⟩ := hrel
            have hAV : ¬ AG = V := by omega
            have hAF : ¬ AG = FA := by omega
            have hAS : ¬ (AG = V ∨ AG = FA) := by omega
            by_cases hlt : k < n1
            ·
              -- <D
              obtain ⟨b, o, e, hc⟩ := HI.out.v h0
              cases e
              obtain ⟨c0, c1, c2, c3⟩ := hc k hlt
              have hbl : b < w.heap.size := World.block_lt_of_cell? _ _ c0
              have hbV : ¬ b = V := by omega
              have hbF : ¬ b = FA := by omega
              have hbS : ¬ (b = V ∨ b = FA) := by omega
              have hVb : ¬ V = b := by omega
              have hFb : ¬ FA = b := by omega
              have hVA : ¬ V = AG := by omega
              have hFA : ¬ FA = AG := by omega
              have hFV : ¬ FA = V := by omega
              have d0 := hKr.cell (p := ⟨b, o + k * 4, none⟩) hbS (cell_later HM2.out.2.2 c0)
              have d1 := hKr.cell (p := ⟨b, o + k * 4 + 1, none⟩) hbS (cell_later HM2.out.2.2 c1)
              have d2 := hKr.cell (p := ⟨b, o + k * 4 + 2, none⟩) hbS (cell_later HM2.out.2.2 c2)
              have d3 := hKr.cell (p := ⟨b, o + k * 4 + 3, none⟩) hbS (cell_later HM2.out.2.2 c3)
              have g10 := hKr.cell (p := ⟨AG, 10, none⟩) hAS a10
              have g4 := hKr.cell (p := ⟨AG, 4, none⟩) hAS a4
              have v0 := hCV.cell (k * 4) (by omega)
              have v1 := hCV.cell (k * 4 + 1) (by omega)
              have v2 := hCV.cell (k * 4 + 2) (by omega)
              have v3 := hCV.cell (k * 4 + 3) (by omega)
              have r0 := hCV.free (k * 4) (by omega)
              have r1 := hCV.free (k * 4 + 1) (by omega)
              have r2 := hCV.free (k * 4 + 2) (by omega)
              have r3 := hCV.free (k * 4 + 3) (by omega)
              have z0 := hCF.cell k hlt
              have z1 := hCF.free k hlt
              have HS : Hid (Cells ((((wr.setCell ⟨V, k * 4, none⟩ (.int .i64 (va k))).setCell ⟨V, k * 4 + 1, none⟩ (.int .i64 (vt k))).setCell ⟨V, k * 4 + 2, none⟩ (.int .i64 (vp k))).setCell ⟨V, k * 4 + 3, none⟩ (.bool (vk k))) V (n1 * 4) (vwOf (toF 0 va (k + 1)) (toF 0 vt (k + 1)) (toF 0 vp (k + 1)) (toF false vk (k + 1))) ∧ Cells wr FA n1 (fun i => .int .i32 (toF 0 (fun _ => -1) k i)) ∧ Keeps (fun b => b = V ∨ b = FA) wc wr) := ⟨vw_all_step hCV hlt, hCF, hKr⟩
              clear hc c0 c1 c2 c3 hCV hCF hKr a10 a4 q0 q1 q2
              have hkI : (0 : Int) ≤ (k : Int) := by omega
              have hkN : (k : Int) < (n1 : Int) := by omega
              go_upto_region 22 with fail
              go_region_held3 (fun w' => w'.cell? ⟨b, o + k * 4, none⟩ = some (.int .i64 (va k)) ∧ w'.cell? ⟨b, o + k * 4 + 1, none⟩ = some (.int .i64 (vt k)) ∧ w'.cell? ⟨b, o + k * 4 + 2, none⟩ = some (.int .i64 (vp k)) ∧ w'.cell? ⟨b, o + k * 4 + 3, none⟩ = some (.bool (vk k)) ∧ w'.cell? ⟨AG, 10, none⟩ = some (.slice (some ⟨V, 0, none⟩) n1 n1)) (go_keep) (fail)
              go_wp2
              go_roundw
              case rel =>
                obtain ⟨hq1, hq2, hq3⟩ := HS.out
                exact ⟨k + 1, by omega, by go_num, (hq1.other hVF _).drew, (fa_step ((((hq2.other hFV _).other hFV _).other hFV _).other hFV _) hlt).drew, (((((hq3.setCell (Or.inl rfl) _).setCell (Or.inl rfl) _).setCell (Or.inl rfl) _).setCell (Or.inl rfl) _).setCell (Or.inr rfl) _).drew⟩
              case measure => simp [intOf]; omega
              -- D>
            · obtain rfl : n1 = k := by omega
              obtain ⟨W3, rfl⟩ : ∃ W3, W3 = wr := ⟨wr, rfl⟩
              obtain ⟨i60, hi60, hz0, hz1, hz2⟩ := info_parts Yba.info60'
              obtain ⟨hAg, hEx, hbw⟩ := HM2.out
              have hwV : ¬ (w.heap.size = V ∨ w.heap.size = FA) := by omega
              have r1 := hKr.cell (p := ⟨w.heap.size, 1, none⟩) hwV q1
              have r2 := hKr.cell (p := ⟨w.heap.size, 2, none⟩) hwV q2
              have hAg3 := hKr.cells hAS hAg
              have hEx3 := hKr.cells (b := EX) (by omega) hEx
              have hV3' : Cells W3 V (n1 * 4) (vwOf va vt vp vk) := hCV.congr fun i hi => by
                have : i / 4 < n1 := by omega
                simp [vwOf, toF, this]
              have hF3' : Cells W3 FA n1 (fun _ => .int .i32 (-1)) := hCF.congr fun i hi => by simp [toF, hi]
              have hbw3 : Below w.heap.size w W3 := hbw.trans (hKr.below hbw.size (fun k h => by omega))
              have HZ : Hid (Cells W3 AG 50 (fun i => (agArr me n1 V FA EX)[i]!) ∧ Cells W3 EX n1 (exOf (fun _ => none)) ∧ Cells W3 V (n1 * 4) (vwOf va vt vp vk) ∧ Cells W3 FA n1 (fun _ => .int .i32 (-1)) ∧ Below w.heap.size w W3 ∧ W3.cell? ⟨w.heap.size, 1, none⟩ = some (.int .i64 v) ∧ W3.cell? ⟨w.heap.size, 2, none⟩ = some (.int .i64 t)) := ⟨hAg3, hEx3, hV3', hF3', hbw3, r1, r2⟩
              have hc11 := hAg3.cell 11 (by omega)
              have hf11 := hAg3.free 11 (by omega)
              have hAl : AG < W3.heap.size := hAg3.lt
              clear r1 r2 q0 q1 q2 hAg hEx hbw hAg3 hEx3 hV3' hF3' hbw3 hCV hCF hKr HM2 HV0 a10 a4
              go_upto_region 24 with fail
              go_cut [133] from 130 to 135 (fun _ wx => ∃ ST, St25 AG V FA ST EX w.heap.size n1 n2 n3 me p1 p2 p3 v t va vt vp vk L has pr M sz w wx ∧ Lies AG V FA ST EX w.heap.size wx.heap.size w ∧ ¬ ST = FA ∧ ¬ EX = FA)
              case first =>
                go_wp2_with (first | (at_make; refine wpList_make_full _ rfl (.tmp 132) (.tmp 132) 40 rfl W3.heap.size 60 i60 (.agg #[.slice none 0 0, .bool false]) 2 Yba.underlying40 hi60 hz0 hz1 .i64 .i64 _ _ n2 rfl rfl rfl rfl (by rw [hz2]; omega) (by unfold maxLen; omega) (Nat.le_refl _) ?_; intro w1 hown1 hgrow1; have hb1 := (Below.refl W3.heap.size W3).grown hgrow1 (Nat.le_refl _) (by simp); have hc11' := cell_later hb1 hc11; have hf11' := (hb1.frozen (p := ⟨AG, 11, none⟩) hAl).trans hf11) | fail)
                go_meet
                obtain ⟨hAg3, hEx3, hV3', hF3', hbw3, r1, r2⟩ := HZ.out
                have hC := Cells.made hown1
                have hSl := hC.lt
                have hws := hbw3.size
                have hq := hb1.size
                have hAg4 := hAg3.later hb1
                have hK : Keeps (fun b => b = AG) w1 (w1.setCell ⟨AG, 11, none⟩ (.slice (some ⟨W3.heap.size, 0, none⟩) n2 n2)) := keeps_set' (Keeps.refl _ _) _ _
                have hAg5 := hAg4.set (j := 11) (by omega) (.slice (some ⟨W3.heap.size, 0, none⟩) n2 n2)
                have hsz5 : (w1.setCell ⟨AG, 11, none⟩ (.slice (some ⟨W3.heap.size, 0, none⟩) n2 n2)).heap.size = w1.heap.size := by simp [World.setCell]
                refine ⟨W3.heap.size, ⟨⟨(hAg5.cell 0 (by omega)).trans (by simp [agArr]), (hAg5.cell 4 (by omega)).trans (by simp [agArr]), (hAg5.cell 10 (by omega)).trans (by simp [agArr]), (hAg5.cell 11 (by omega)).trans (by simp), (hAg5.cell 14 (by omega)).trans (by simp [agArr]), hK.cells (by omega) (hF3'.later hb1)⟩, hK.cells (by omega) (hV3'.later hb1), hK.cells (by omega) (hC.congr fun i hi => ?_), hK.cells (by omega) (hEx3.later hb1), HI.out, HL.out, HM.out, hK.cell (p := ⟨w.heap.size, 1, none⟩) (by show ¬ w.heap.size = AG; omega) (cell_later hb1 r1), hK.cell (p := ⟨w.heap.size, 2, none⟩) (by show ¬ w.heap.size = AG; omega) (cell_later hb1 r2), (hbw3.trans (hb1.mono hws)).setCell (p := ⟨AG, 11, none⟩) (by show w.heap.size ≤ AG; omega) _⟩, ⟨by omega, by omega, by omega, by omega, by omega, by omega, by omega, by rw [hsz5]; omega, by rw [hsz5]; omega, by rw [hsz5]; omega, by omega, by omega, by omega, by omega, by omega, by omega⟩, by omega, by omega⟩
                rw [made_get (by omega)]
                have : i % 2 = 0 ∨ i % 2 = 1 := by omega
                rcases this with e | e <;> simp [Value.cells, e, stOf, nilL, Lhs.val]
              case rest =>
              obtain ⟨ST, hS25, hLies, hSF, hEF⟩ := hcut
              apply_assumption
              exact lrn_25 AG V FA ST EX w.heap.size n1 n2 n3 me ag c1 c2 c3 p1 p2 p3 v t va vt vp vk L has pr M sz w _ h0 h1 h2 h3 hag hLies hSF hEF hS25 _ _ _ _ _ _ _ _ _ _ _ _ _ _ _ _ _ _ _ _ _ _ _ _ _ _ _ _ _ _ _ _ _ _ _ _ _ _ _ _ _ _ _ _ _ _ _ _ _ _ _ _ _ _ _ _ _ _ _ _ _ _ _ _ _ _ _ _ _ _ _ _ _ _ _ _ _ _ _ _ _ _ _ _ _ _ _ _ _ _ _ _ _ _ _ _ _ _ _ _ _ _ _ _ _ _ _ _ _ _ _ _ _ _ _ _ _ _ _ _ _ _ _ _ _ _ _ _ _ _ _ _ _ _ _ _ _ _ _ _ _ _ _ _ _ _ _ _ _ _ _ _ _ _ _ _ _ _ _ _ _ _ _ _ _ _ _ _ _ _ _ _ _ _ _ _ _ _ _ _ _ _ _ _ _ _ _ _ _ _ _ _ _ _ _ _ _ _ _ _ _ _ _ _ _ _ _ _ _ _ _ _ _ _ _ _ _ _ _ _ _ _ _ _ _ _ _ _ _ _ _ _ _ _ _ _ _ _ _ _ _ _ _ _ _ _ _ _ _ _ _ _ _ _ _ _ _ _ _ _ _ _ _ _ _ _ _ _ _ _ _ _ _ _ _ _ _ _ _ _ _ _ _ _ _ _ _ _ _ _ _ _ _ _ _ _ _ _ _ _ _ _ _ _ _ _ _ _ _ _ _ _ _ _ _ _ _ _ _ _ _ _ _ _ _ _ _ _ _ _ _ _ _ _ _ _ _ _ _ _ _ _ _ _ _ _ _ _ _ _ _ _ _ _ _ _ _ _ _ _ _ _ _ _ _ _ _ _ _ _ _ _ _ _ _ _ _ _ _ _ _ _ _ _ _ _ _ _ _ _ _ _ _ _ _ _ _ _ _ _ _ _ _ _ _ _ _ _ _ _ _ _ _ _ _ _ _ _ _
end Go.Proofs.Ybulkclmc
