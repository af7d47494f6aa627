import Derived.Test.YbulkclnsG
namespace Go.Proofs.Ybulkclns
open Go.RowKit

theorem MapP.congr {w : World} {b n n0 : Nat} {M M' : Int → Option Nat} (h : MapP w b M n n0) (e : ∀ x, M x = M' x) : MapP w b M' n n0 := by
  have : M = M' := funext e
  rw [← this]; exact h

theorem keeps_map {w w' : World} {b : Nat} (hg : w.grownBy w' (some b)) : Keeps (fun x => x = b) w w' :=
  ⟨hg.os, hg.tape, hg.output, hg.size, fun k hk hs => hg.block k hk (fun e => hs (by cases e; rfl))⟩

/-- the node and the message -/
structure NodeIn (N MS VS VB FH LM kk fi : Nat) (h mh : Int) (w : World) : Prop where
  n1 : w.cell? ⟨N, 1, none⟩ = some (.pointer (some ⟨VS, 0, none⟩))
  n10 : w.cell? ⟨N, 10, none⟩ = some (.int .i64 h)
  n14 : w.cell? ⟨N, 14, none⟩ = some (.map (some LM))
  n15 : w.cell? ⟨N, 15, none⟩ = some (.slice (some ⟨FH, 0, none⟩) kk kk)
  m1 : w.cell? ⟨MS, 1, none⟩ = some (.int .i64 mh)
  m3 : w.cell? ⟨MS, 3, none⟩ = some (.int .i64 fi)
  v0 : w.cell? ⟨VS, 0, none⟩ = some (.slice (some ⟨VB, 0, none⟩) kk kk)
  eN : ¬ N = FH
  eM : ¬ MS = FH
  eV : ¬ VS = FH
  eN2 : ¬ N = LM
  eM2 : ¬ MS = LM
  eV2 : ¬ VS = LM
  eL : ¬ LM = FH

theorem NodeIn.keeps {N MS VS VB FH LM kk fi : Nat} {h mh : Int} {S : Nat → Prop} {w w' : World} (i : NodeIn N MS VS VB FH LM kk fi h mh w) (k : Keeps S w w') (h1 : ¬ S N) (h2 : ¬ S MS) (h3 : ¬ S VS) : NodeIn N MS VS VB FH LM kk fi h mh w' :=
  ⟨k.cell h1 i.n1, k.cell h1 i.n10, k.cell h1 i.n14, k.cell h1 i.n15, k.cell h2 i.m1, k.cell h2 i.m3, k.cell h3 i.v0, i.eN, i.eM, i.eV, i.eN2, i.eM2, i.eV2, i.eL⟩

def farB (h mh : Int) : Bool := decide (h + 8 < mh)
def refB (f : Nat → Int) (fi : Nat) (h mh : Int) : Bool := farB h mh && !clKept f fi mh
def goneB (f : Nat → Int) (fi kk : Nat) (h mh : Int) : Bool := farB h mh && clKept f fi mh && decide (h + 8 < clRel f fi kk mh)
def m1F (M : Int → Option Nat) (f : Nat → Int) (fi kk : Nat) (h mh : Int) : Int → Option Nat := if goneB f fi kk h mh then putM M (clRel f fi kk mh) none else M
def n1F (M : Int → Option Nat) (n : Nat) (f : Nat → Int) (fi kk : Nat) (h mh : Int) : Nat := if goneB f fi kk h mh && (M (clRel f fi kk mh)).isSome then n - 1 else n

structure LtOut (FH LM kk fi n n0 : Nat) (M : Int → Option Nat) (f : Nat → Int) (h mh : Int) (o : Option Nat) (w w' : World) : Prop where
  fh : Cells w' FH kk (fun i => .int .i64 ((if farB h mh then clF f fi mh else f) i))
  ref : refB f fi h mh = true → o = none ∧ MapP w' LM M n (n0 + 1)
  new : refB f fi h mh = false → ∃ p, o = some p ∧ MapP w' LM (putM (m1F M f fi kk h mh) mh (some p)) (if (m1F M f fi kk h mh mh).isSome then n1F M n f fi kk h mh else n1F M n f fi kk h mh + 1) (n0 + 1) ∧ (∀ q, m1F M f fi kk h mh mh = some q → p = q) ∧ (m1F M f fi kk h mh mh = none → NewHS w.heap.size p kk w')
  kp : Keeps (fun b => b = FH ∨ b = LM) w w'

def LtPost (FH LM kk fi n n0 : Nat) (M : Int → Option Nat) (f : Nat → Int) (h mh : Int) (w : World) (e : Ending) (w' : World) : Prop := ∃ o, e = .returned (ptr o) ∧ LtOut FH LM kk fi n n0 M f h mh o w w'

theorem MapP.mono {w : World} {b n n0 n1 : Nat} {M : Int → Option Nat} (h : MapP w b M n n0) (hn : n0 ≤ n1) : MapP w b M n n1 := by
  obtain ⟨D, h, r⟩ := h; exact ⟨D, h.mono hn, r⟩

theorem eql33n (w : World) : (binOp .eql 33 (.pointer none) (.pointer none)).run Yba.prog w = .ok (.bool true) w := by
  have h : ∀ d : Nat, (Op.equalIn (d + 1) 33 (.pointer none) (.pointer none)).run Yba.prog w = .ok true w := fun d => by
    simp [Op.equalIn, run_underlying Yba.underlying33]
  simp only [binOp]
  simp [Op.equal, Op.maxDepth, h 9999]
theorem eql33s (b : Nat) (w : World) : (binOp .eql 33 (.pointer (some ⟨b, 0, none⟩)) (.pointer none)).run Yba.prog w = .ok (.bool false) w := by
  have h : ∀ d : Nat, (Op.equalIn (d + 1) 33 (.pointer (some ⟨b, 0, none⟩)) (.pointer none)).run Yba.prog w = .ok false w := fun d => by
    simp [Op.equalIn, run_underlying Yba.underlying33]
  simp only [binOp]
  simp [Op.equal, Op.maxDepth, h 9999]

section
variable {w : World} {ops : Array Oper} {rest : List Oper} {o : Oper} {a : Act} {Q : Exit → Act → World → Prop}
theorem wpList_delete_P (hg : o.guard = none) (m x : Operand) (hop : o.op = Op.call { callee := Callee.builtin Builtin.delete, args := #[m, x], argTypes := #[30, 2] })
    (b n n0 : Nat) (M : Int → Option Nat) (hm : a.eval m = .map (some b)) (hM : MapP w b M n n0) (k : Int) (hx : a.eval x = .int .i64 k) (hk : (Lit.int .i64 k).wf = true)
    (hK : ∀ w', MapP w' b (putM M k none) (if (M k).isSome then n - 1 else n) n0 → w.grownBy w' (some b) → wpList Yba.prog ops Q rest (a.put o.dst (.tuple #[])) w') :
    wpList Yba.prog ops Q (o :: rest) a w := by
  refine wpList_plain hg fun K' hK' => ?_
  obtain ⟨w', hrun, r1, r2⟩ := hM.drop hk o.type
  unfold Oper.wp
  simp [execOp, hop, resolve, invoke, builtin, hm, hx, hrun, Result.andThen]
  exact hK' _ _ (hK w' r1 r2)

theorem wpList_update_P (hg : o.guard = none) (m x v : Operand) (hop : o.op = Op.mapUpdate 30 m x v)
    (b n n0 : Nat) (M : Int → Option Nat) (hm : a.eval m = .map (some b)) (hM : MapP w b M n n0) (hn : n0 < maxLen) (k : Int) (hx : a.eval x = .int .i64 k) (hk : (Lit.int .i64 k).wf = true) (p : Nat) (hv : a.eval v = .pointer (some ⟨p, 0, none⟩))
    (hK : ∀ w', MapP w' b (putM M k (some p)) (if (M k).isSome then n else n + 1) (n0 + 1) → w.grownBy w' (some b) → wpList Yba.prog ops Q rest (a.put o.dst undef) w') :
    wpList Yba.prog ops Q (o :: rest) a w := by
  refine wpList_plain hg fun K' hK' => ?_
  obtain ⟨w', hrun, r1, r2⟩ := hM.store hk p hn
  unfold Oper.wp
  simp [execOp, hop, hm, hx, hv, hrun, Result.andThen]
  exact hK' _ _ (hK w' r1 r2)
end

theorem wf64 {x : Int} (h0 : 0 ≤ x) (h1 : x ≤ 200000) : (Lit.int .i64 x).wf = true := by
  simp [Lit.wf, IntKind.min, IntKind.max, IntKind.signed, IntKind.bits]; omega

theorem clRel_rng {f : Nat → Int} {fi kk : Nat} {x : Int} (hf : ∀ i, 0 ≤ f i ∧ f i ≤ 100000) : 0 ≤ clRel f fi kk x ∧ clRel f fi kk x ≤ 100000 := by
  unfold clRel
  have := hf fi
  split
  · omega
  · split <;> omega

abbrev S3 (N MS FH kk fi : Nat) (mh : Int) (T w' : World) : Prop := w'.cell? ⟨N, 15, none⟩ = some (.slice (some ⟨FH, 0, none⟩) kk kk) ∧ w'.cell? ⟨MS, 3, none⟩ = some (.int .i64 fi) ∧ w'.cell? ⟨MS, 1, none⟩ = some (.int .i64 mh) ∧ Keeps (fun b => b = FH) T w'
theorem s3 {N MS VS VB FH LM kk fi : Nat} {h mh : Int} {T w' : World} (i : NodeIn N MS VS VB FH LM kk fi h mh T) (k : Keeps (fun b => b = FH) T w') : S3 N MS FH kk fi mh T w' :=
  ⟨k.cell i.eN i.n15, k.cell i.eM i.m3, k.cell i.eM i.m1, k⟩
theorem keeps_q {S : Nat → Prop} {a X w1 : World} (h : Keeps S X w1) (k : Keeps S a X) : Keeps S a w1 := k.trans h

set_option maxRecDepth 100000 in
set_option maxHeartbeats 1000000 in
theorem later_any (N MS VS VB FH LM kk fi n n0 : Nat) (M : Int → Option Nat) (f : Nat → Int) (h mh : Int) (w : World) (hI : NodeIn N MS VS VB FH LM kk fi h mh w) (hC : Cells w FH kk (fun i => .int .i64 (f i))) (hM : MapP w LM M n n0)
    (hfi : fi < kk) (hk : kk ≤ 6) (hn0 : n0 < 2000) (hh0 : 0 ≤ h) (hh : h ≤ 65535) (hm0 : 0 ≤ mh) (hmh : mh ≤ 100000) (hf : ∀ i, 0 ≤ f i ∧ f i ≤ 100000) :
    Calls Yba.prog 6 #[.pointer (some ⟨N, 0, none⟩), .pointer (some ⟨MS, 0, none⟩)] w fun e w' => LtPost FH LM kk fi n n0 M f h mh w e w' := by
  have HI : Hid (NodeIn N MS VS VB FH LM kk fi h mh w ∧ Cells w FH kk (fun i => .int .i64 (f i)) ∧ MapP w LM M n n0 ∧ ∀ i, 0 ≤ f i ∧ f i ≤ 100000) := ⟨hI, hC, hM, hf⟩
  have n10 := hI.n10
  have m1 := hI.m1
  have hlen : (2000 : Nat) < maxLen := by unfold maxLen; omega
  clear hI hC hM hf
  go_enter Yba.func6, Yba.ntmps6
  go_upto_if 19 with fail
  go_cut [] from 6 to 45 (fun wx => refB f fi h mh = false ∧ MapP wx LM (m1F M f fi kk h mh) (n1F M n f fi kk h mh) n0 ∧ Cells wx FH kk (fun i => .int .i64 ((if farB h mh then clF f fi mh else f) i)) ∧ Keeps (fun b => b = FH ∨ b = LM) w wx)
  case first =>
    by_cases hfar : h + 8 < mh
    · have k1 : decide (h + 8 < mh) = true := by simp [hfar]
      have hI := HI.out.1
      go_upto_region 3 with fail
      have hK0 : Keeps (fun b => b = FH) w w := Keeps.refl _ _
      have hC := HI.out.2.1
      go_cut [6, 7] from 19 to 35 (fun s6 s7 wx => s6 = .bool (clKept f fi mh) ∧ s7 = .int .i64 (clRel f fi kk mh) ∧ Cells wx FH kk (fun i => .int .i64 (clF f fi mh i)) ∧ Keeps (fun b => b = FH) w wx)
      case first =>
        go_region_held3 (fun w' => S3 N MS FH kk fi mh w w') ((refine s3 hI ?_; repeat (first | refine Keeps.drew ?_ | refine Keeps.drewN ?_ _ | refine keeps_q hKq ?_ | exact hK0))) (first | (go_at_call 11; refine (claim_any FH kk fi f mh _ (hC.later ?_) hfi hk).mono ?_; (repeat (first | refine Below.drew ?_ | refine bl_drewN ?_ _ | exact Below.refl _ _)); rintro e wq ⟨rfl, hCq, hKq⟩))
        obtain ⟨_, _, _, hkk⟩ : S3 N MS FH kk fi mh w _ := by assumption
        go_wp2_with fail
        go_meet
        exact ⟨rfl, rfl, hCq, hkk⟩
      case rest =>
      obtain ⟨rfl, rfl, hCq, hKq⟩ := hcut
      have hff : farB h mh = true := by simp [farB, hfar]
      apply_assumption
      have hrr := clRel_rng (fi := fi) (kk := kk) (x := mh) HI.out.2.2.2
      cases hkp : clKept f fi mh with
      | false =>
        have HF : Hid (farB h mh = true ∧ clKept f fi mh = false) := ⟨hff, hkp⟩
        have HQ : Hid (Cells wc FH kk (fun i => .int .i64 (clF f fi mh i)) ∧ Keeps (fun b => b = FH) w wc) := ⟨hCq, hKq⟩
        clear hff hkp hCq hKq hC hI
        go_wp2_with fail
        go_ret
        obtain ⟨q1, q2⟩ := HF.out
        refine ⟨none, rfl, ?_, fun _ => ⟨rfl, ?_⟩, fun hr => ?_, HQ.out.2.weak (fun _ h => Or.inl h)⟩
        · rw [q1]; exact HQ.out.1
        · exact (HI.out.2.2.1.keeps HQ.out.2 HI.out.1.eL).mono (by omega)
        · simp [refB, q1, q2] at hr
      | true =>
        have HQ : Hid (Cells wc FH kk (fun i => .int .i64 (clF f fi mh i)) ∧ Keeps (fun b => b = FH) w wc ∧ farB h mh = true ∧ clKept f fi mh = true) := ⟨hCq, hKq, hff, hkp⟩
        have hI2 := hI.keeps hKq hI.eN hI.eM hI.eV
        have n14 := hI2.n14
        have hMc := HI.out.2.2.1.keeps hKq hI.eL
        clear hff hkp hCq hKq hC hI hI2
        generalize hrel : clRel f fi kk mh = rl at *
        have HRL : Hid (clRel f fi kk mh = rl) := hrel
        clear hrel
        by_cases hg : h + 8 < rl
        · have k2 : decide (h + 8 < rl) = true := by simp [hg]
          have hwf : (Lit.int .i64 rl).wf = true := wf64 hrr.1 (by omega)
          obtain ⟨w2, hrun, hM2, hg2⟩ := hMc.drop hwf 0
          have HG : Hid (goneB f fi kk h mh = true) := by show goneB f fi kk h mh = true; simp [goneB, HQ.out.2.2.1, HQ.out.2.2.2, HRL.out, hg]
          have HM2 : Hid (MapP w2 LM (putM M rl none) (if (M rl).isSome then n - 1 else n) n0 ∧ wc.grownBy w2 (some LM)) := ⟨hM2, hg2⟩
          clear hMc hM2 hg2
          go_wp2_with fail
          go_meet
          obtain ⟨hM2, hg2⟩ := HM2.out
          refine ⟨by simp [refB, HQ.out.2.2.2], ?_, ?_, (HQ.out.2.1.weak (fun _ h => Or.inl h)).trans ((keeps_map hg2).weak (fun _ h => Or.inr h))⟩
          · simp only [m1F, n1F, HG.out, HRL.out, if_true, Bool.true_and]
            exact hM2
          · rw [HQ.out.2.2.1]
            exact (keeps_map hg2).cells (fun h => HI.out.1.eL h.symm) HQ.out.1
        · have k2 : decide (h + 8 < rl) = false := by simp; omega
          have HG : Hid (goneB f fi kk h mh = false) := by show goneB f fi kk h mh = false; simp [goneB, HRL.out]; intros; omega
          have HM : Hid (MapP wc LM M n n0) := hMc
          clear hMc
          go_wp2_with fail
          go_meet
          refine ⟨by simp [refB, HQ.out.2.2.2], ?_, ?_, HQ.out.2.1.weak (fun _ h => Or.inl h)⟩
          · simp only [m1F, n1F, HG.out, Bool.false_and, if_false, Bool.false_eq_true]
            exact HM.out
          · rw [HQ.out.2.2.1]
            exact HQ.out.1
    · have k1 : decide (h + 8 < mh) = false := by simp; omega
      have q1 : farB h mh = false := by simp [farB]; omega
      have HQ : Hid (farB h mh = false) := q1
      clear q1
      go_wp2_with fail
      go_meet
      have hf := HQ.out
      refine ⟨by simp [refB, hf], ?_, ?_, Keeps.refl _ _⟩
      · simp only [m1F, n1F, goneB, hf, Bool.false_and, if_false, Bool.false_eq_true]
        exact HI.out.2.2.1
      · rw [hf]
        exact HI.out.2.1
  case rest =>
  obtain ⟨hrf, hM1, hC1, hK1⟩ := hcut
  obtain ⟨W1, rfl⟩ : ∃ x, x = wc := ⟨wc, rfl⟩
  have hI := HI.out.1.keeps hK1 (by have := HI.out.1.eN; have := HI.out.1.eN2; omega) (by have := HI.out.1.eM; have := HI.out.1.eM2; omega) (by have := HI.out.1.eV; have := HI.out.1.eV2; omega)
  have HB : Hid (refB f fi h mh = false ∧ MapP W1 LM (m1F M f fi kk h mh) (n1F M n f fi kk h mh) n0 ∧ Cells W1 FH kk (fun i => .int .i64 ((if farB h mh then clF f fi mh else f) i)) ∧ Keeps (fun b => b = FH ∨ b = LM) w W1 ∧ NodeIn N MS VS VB FH LM kk fi h mh W1) := ⟨hrf, hM1, hC1, hK1, hI⟩
  have n14 := hI.n14
  have m1' := hI.m1
  have hwf : (Lit.int .i64 mh).wf = true := wf64 hm0 (by omega)
  have hlk : ∀ q, (Instr.lookup 30 (.map (some LM)) (.int .i64 mh) false).run Yba.prog (W1.drewN q) = .ok (ptr (m1F M f fi kk h mh mh)) (W1.drewN q) := fun q => (hM1.later (bl_drewN (Below.refl _ _) q)).look hwf (Yba.zeroValue33 _)
  clear hrf hM1 hC1 hK1 hI n10 m1
  apply_assumption
  go_upto_region 8 with fail
  cases hm : m1F M f fi kk h mh mh with
  | some p =>
    rw [hm] at hlk
    simp only [ptr, Option.map_some] at hlk
    have q1 := eql33s p
    have HM : Hid (m1F M f fi kk h mh mh = some p) := hm
    clear hm
    go_quiet (fail)
    go_wp2_with fail
    go_ret
    have hb := bl_drewN (Below.refl W1.heap.size W1) nq
    obtain ⟨a1, a2, a3, a4, a5⟩ := HB.out
    refine ⟨some p, rfl, a3.later hb, (fun hr => by rw [a1] at hr; cases hr), fun _ => ⟨p, rfl, ?_, (fun q hq => by rw [HM.out] at hq; cases hq; rfl), fun hn => by rw [HM.out] at hn; cases hn⟩, a4.drewN _⟩
    rw [HM.out]
    refine ((a2.later hb).congr fun x => ?_).mono (by omega)
    unfold putM
    by_cases e : x = mh
    · rw [e, HM.out]; simp
    · simp [e]
  | none =>
    rw [hm] at hlk
    simp only [ptr, Option.map_none] at hlk
    have q1 := eql33n
    have HM : Hid (m1F M f fi kk h mh mh = none) := hm
    clear hm
    go_quiet (fail)
    have hb := bl_drewN (Below.refl W1.heap.size W1) nq
    have n1 := cell_later hb HB.out.2.2.2.2.n1
    have v0 := cell_later hb HB.out.2.2.2.2.v0
    clear hlk n14 m1'
    go_wp2_with fail
    refine (nhs_any VS VB kk _ v0 hk).mono ?_
    rintro e w3 ⟨HS, rfl, hNew, hb3⟩
    have hb4 : Below W1.heap.size W1 w3 := bl_then hb3 hb
    have HB3 : Hid (Below W1.heap.size W1 w3 ∧ NewHS W1.heap.size HS kk w3) := ⟨hb4, hNew⟩
    have n14 := cell_later hb4 HB.out.2.2.2.2.n14
    have m1' := cell_later hb4 HB.out.2.2.2.2.m1
    have hM3 : MapP w3 LM (m1F M f fi kk h mh) (n1F M n f fi kk h mh) n0 := HB.out.2.1.later hb4
    obtain ⟨w5, hrun, hM5, hg5⟩ := (hM3.later (Below.refl _ _).drew).store hwf HS (by omega)
    have HM5 : Hid (MapP w5 LM (putM (m1F M f fi kk h mh) mh (some HS)) (if (m1F M f fi kk h mh mh).isSome then n1F M n f fi kk h mh else n1F M n f fi kk h mh + 1) (n0 + 1) ∧ w3.drew.grownBy w5 (some LM)) := ⟨hM5, hg5⟩
    clear hb3 hb4 hNew hM3 hM5 hg5 n1 v0
    go_upto_region 11 with fail
    go_region
    go_wp2_with fail
    go_ret
    obtain ⟨a1, a2, a3, a4, a5⟩ := HB.out
    have hkm := (Keeps.refl (fun x => x = LM) w3).drew.trans (keeps_map HM5.out.2)
    have hLl := a2.lt
    refine ⟨some HS, rfl, hkm.cells (fun e => a5.eL e.symm) (a3.later HB3.out.1), (fun hr => by rw [a1] at hr; cases hr), fun _ => ⟨HS, rfl, HM5.out.1, (fun q hq => by rw [HM.out] at hq; cases hq), fun _ => (HB3.out.2.keeps hkm (fun b hb e => by omega)).mono a4.size⟩, (a4.trans (Keeps.of_below HB3.out.1)).trans (hkm.weak (fun _ e => Or.inr e))⟩
end Go.Proofs.Ybulkclns
