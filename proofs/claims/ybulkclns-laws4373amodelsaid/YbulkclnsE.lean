import Derived.Test.YbulkclnsD
namespace Go.Proofs.Ybulkclns
open Go.RowKit

theorem gone_rel {f : Nat → Int} {fi kk : Nat} {h mh : Int} (h0 : 0 ≤ h) (hg : goneB f fi kk h mh = true) : clRel f fi kk mh = f fi ∧ ¬ mh = f fi := by
  simp only [goneB, Bool.and_eq_true, decide_eq_true_eq] at hg
  have hr := hg.2
  unfold clRel at hr ⊢
  by_cases e1 : mh < f fi
  · rw [if_pos e1] at hr; omega
  · rw [if_neg e1] at hr
    by_cases e2 : mh = f fi ∨ (fnd (put f fi mh) (f fi) kk).isSome = true
    · rw [if_pos e2] at hr; omega
    · rw [if_neg e1, if_neg e2]
      exact ⟨rfl, fun e => e2 (Or.inl e)⟩

theorem m1_at {M : Int → Option Nat} {f : Nat → Int} {fi kk : Nat} {h mh : Int} (h0 : 0 ≤ h) (x : Int) (hx : goneB f fi kk h mh = true → ¬ x = f fi) : m1F M f fi kk h mh x = M x := by
  unfold m1F
  split
  · rename_i hg
    rw [(gone_rel h0 hg).1]
    simp [putM, hx hg]
  · rfl

theorem kmap_at {g : Nat → Int} {q : Nat → Nat} {n i : Nat} (hd : ∀ i j, i < n → j < n → g i = g j → i = j) (hi : i < n) : kmap g q n (g i) = some (q i) := by
  unfold kmap
  cases hf : fnd g (g i) n with
  | none => exact absurd rfl (fnd_none hf i hi)
  | some j =>
    obtain ⟨h1, h2⟩ := fnd_some hf
    rw [hd j i h1 hi h2]; rfl
theorem fnd_neg {g : Nat → Int} {n : Nat} (hr : ∀ i, i < n → 0 ≤ g i ∧ g i ≤ 100000) : fnd g (-1) n = none := by
  cases hf : fnd g (-1) n with
  | none => rfl
  | some j =>
    obtain ⟨h1, h2⟩ := fnd_some hf
    have := hr j h1
    omega

theorem acc_of {kk fi n B : Nat} {g : Nat → Int} {q : Nat → Nat} {f : Nat → Int} {h mh : Int} {p : Nat} {W : World} (h0 : 0 ≤ h) (hd : ∀ i j, i < n → j < n → g i = g j → i = j) (hr : ∀ i, i < n → 0 ≤ g i ∧ g i ≤ 100000)
    (ho : ∀ x, m1F (kmap g q n) f fi kk h mh mh = some x → p = x) (hN : m1F (kmap g q n) f fi kk h mh mh = none → NewHS B p kk W) :
    Acc n (if (m1F (kmap g q n) f fi kk h mh mh).isSome then n1F (kmap g q n) n f fi kk h mh else n1F (kmap g q n) n f fi kk h mh + 1) kk B g q (putM (m1F (kmap g q n) f fi kk h mh) mh (some p)) mh (gnF f fi kk h mh) p W := by
  have hm : m1F (kmap g q n) f fi kk h mh mh = kmap g q n mh := m1_at h0 mh fun hg => (gone_rel h0 hg).2
  rw [hm] at ho hN ⊢
  refine ⟨by simp [putM], fun i hi hne => ?_, fun i hi he => ?_, hd, fun j hj => ?_, fun hf => hN (by simp [kmap, hf]), ?_⟩
  · by_cases e : g i = mh
    · rw [e]; simp only [putM, if_true]
      rw [ho (q i) (by rw [← e]; exact kmap_at hd hi)]
    · simp only [putM, if_neg e]
      rw [m1_at h0 (g i) (fun hg e2 => hne (by rw [gnF, if_pos hg]; exact e2))]
      exact kmap_at hd hi
  · have := hr i hi
    by_cases hg : goneB f fi kk h mh = true
    · obtain ⟨r1, r2⟩ := gone_rel h0 hg
      rw [gnF, if_pos hg]
      simp only [putM, if_neg (show ¬ f fi = mh from fun e => r2 e.symm)]
      unfold m1F
      rw [if_pos hg, r1]; simp [putM]
    · rw [gnF, if_neg hg] at he; omega
  · exact ho (q j) (by simp [kmap, hj])
  · have hk : (kmap g q n mh).isSome = (fnd g mh n).isSome := by simp [kmap]
    rw [hk]
    have hn1 : (n1F (kmap g q n) n f fi kk h mh : Int) = (n : Int) - (if (fnd g (gnF f fi kk h mh) n).isSome then 1 else 0) := by
      by_cases hg : goneB f fi kk h mh = true
      · obtain ⟨r1, r2⟩ := gone_rel h0 hg
        rw [gnF, if_pos hg]
        unfold n1F
        rw [hg, r1]
        simp only [kmap, Bool.true_and, Option.isSome_map]
        cases hf : fnd g (f fi) n with
        | none => simp
        | some j =>
          have := (fnd_some hf).1
          simp; omega
      · have hg' : goneB f fi kk h mh = false := by simpa using hg
        rw [gnF, if_neg hg, fnd_neg hr]
        unfold n1F
        rw [hg']; simp
    split <;> omega

theorem in52_of {N MS VS VB FH LM kk fi n n0 : Nat} {sp1 sp2 : Option Addr} {g : Nat → Int} {q : Nat → Nat} {f : Nat → Int} {h mh : Int} {o : Option Nat} {w T W : World}
    (r1 : 0 < n → ∃ b, sp1 = some ⟨b, 0, none⟩ ∧ ¬ (b = FH ∨ b = LM) ∧ ∀ i, i < n → T.cell? ⟨b, i, none⟩ = some (.int .i64 (g i))) (r2 : 0 < n → ∃ b, sp2 = some ⟨b, 0, none⟩ ∧ ¬ (b = FH ∨ b = LM) ∧ ∀ i, i < n → T.cell? ⟨b, i, none⟩ = some (.pointer (some ⟨q i, 0, none⟩)))
    (hI : NodeIn N MS VS VB FH LM kk fi h mh T) (hd : ∀ i j, i < n → j < n → g i = g j → i = j) (hr : ∀ i, i < n → 0 ≤ g i ∧ g i ≤ 100000) (h0 : 0 ≤ h) (L : LtOut FH LM kk fi n n0 (kmap g q n) f h mh o T W) (hb : Below w.heap.size w T) (hF : w.heap.size ≤ FH) (hL : w.heap.size ≤ LM) :
    ∃ nm M, In52 N FH LM kk n nm (n0 + 1) T.heap.size sp1 sp2 g q M o mh (gnF f fi kk h mh) (refB f fi h mh) (rowF f fi h mh) w W := by
  have hbw : Below w.heap.size w W := hb.trans (L.kp.below hb.size (fun k hk => by rcases hk with rfl | rfl; exact hF; exact hL))
  have n15 : W.cell? ⟨N, 15, none⟩ = some (.slice (some ⟨FH, 0, none⟩) kk kk) := L.kp.cell (fun e => e.elim hI.eN hI.eN2) hI.n15
  have n14 : W.cell? ⟨N, 14, none⟩ = some (.map (some LM)) := L.kp.cell (fun e => e.elim hI.eN hI.eN2) hI.n14
  have hFc : ∀ i, i < kk → W.cell? ⟨FH, i, none⟩ = some (.int .i64 (rowF f fi h mh i)) := fun i hi => by
    have := L.fh.cell i hi
    exact this
  have q1 : 0 < n → ∃ b, sp1 = some ⟨b, 0, none⟩ ∧ ∀ i, i < n → W.cell? ⟨b, i, none⟩ = some (.int .i64 (g i)) := fun hn => by
    obtain ⟨b, e, hne, hc⟩ := r1 hn
    exact ⟨b, e, fun i hi => L.kp.cell hne (hc i hi)⟩
  have q2 : 0 < n → ∃ b, sp2 = some ⟨b, 0, none⟩ ∧ ∀ i, i < n → W.cell? ⟨b, i, none⟩ = some (.pointer (some ⟨q i, 0, none⟩)) := fun hn => by
    obtain ⟨b, e, hne, hc⟩ := r2 hn
    exact ⟨b, e, fun i hi => L.kp.cell hne (hc i hi)⟩
  cases hrf : refB f fi h mh with
  | true =>
    obtain ⟨ho, hM⟩ := L.ref hrf
    exact ⟨n, _, n15, hFc, ⟨q1, q2, n14, hM, hr⟩, fun _ => ⟨ho, rfl, fun i hi => kmap_at hd hi⟩, (fun e => by cases e), hbw⟩
  | false =>
    obtain ⟨p, ho, hM, h1, h2⟩ := L.new hrf
    exact ⟨_, _, n15, hFc, ⟨q1, q2, n14, hM, hr⟩, (fun e => by cases e), fun _ => ⟨p, ho, acc_of h0 hd hr h1 h2⟩, hbw⟩
end Go.Proofs.Ybulkclns
