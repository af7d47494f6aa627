import Derived.Test.YbulkclnsMem
namespace Go.Proofs.Ybulkclns
open Go.RowKit

/-- the first place of x among the first n -/
def fnd (f : Nat → Int) (x : Int) : Nat → Option Nat
  | 0 => none
  | n + 1 => match fnd f x n with
    | some j => some j
    | none => if f n = x then some n else none

theorem fnd_none {f : Nat → Int} {x : Int} : ∀ {n : Nat}, fnd f x n = none → ∀ i, i < n → ¬ f i = x
  | 0, _, i, hi => by omega
  | n + 1, h, i, hi => by
    simp only [fnd] at h
    cases hf : fnd f x n with
    | some j => rw [hf] at h; cases h
    | none =>
      rw [hf] at h
      by_cases e : i = n
      · subst e
        intro e2
        simp [e2] at h
      · exact fnd_none hf i (by omega)
theorem fnd_some {f : Nat → Int} {x : Int} : ∀ {n j : Nat}, fnd f x n = some j → j < n ∧ f j = x
  | 0, _, h => by cases h
  | n + 1, j, h => by
    simp only [fnd] at h
    cases hf : fnd f x n with
    | some q =>
      rw [hf] at h
      cases h
      have := fnd_some hf
      exact ⟨by omega, this.2⟩
    | none =>
      rw [hf] at h
      by_cases e : f n = x
      · simp [e] at h; subst h; exact ⟨by omega, e⟩
      · simp [e] at h
theorem fnd_mono {f : Nat → Int} {x : Int} {n j : Nat} (h : fnd f x n = some j) : ∀ m, n ≤ m → fnd f x m = some j
  | 0, hm => by obtain rfl : n = 0 := by omega
                exact h
  | m + 1, hm => by
    by_cases e : n = m + 1
    · subst e; exact h
    · simp only [fnd, fnd_mono h m (by omega)]

def idxI (o : Option Nat) : Int := match o with | some j => j | none => -1

/-- a row of int64 -/
structure RowI (w : World) (p : Option Addr) (n : Nat) (f : Nat → Int) : Prop where
  pos : 0 < n → ∃ b, p = some ⟨b, 0, none⟩ ∧ ∀ i, i < n → w.cell? ⟨b, i, none⟩ = some (.int .i64 (f i))

set_option maxRecDepth 100000 in
theorem idx_any (p : Option Addr) (n c : Nat) (f : Nat → Int) (x : Int) (w : World) (hI : RowI w p n f) (hn : n ≤ 1024) :
    Calls Yba.prog 9 #[.slice p n c, .int .i64 x] w fun e w' => e = .returned (.int .i64 (idxI (fnd f x n))) ∧ w' = w := by
  go_enter Yba.func9, Yba.ntmps9
  go_wp2_with fail
  go_loopw [8] (fun s wr => ∃ k : Nat, k ≤ n ∧ s = .int .i64 k ∧ fnd f x k = none ∧ wr = w) (fun s _ => n - (intOf s).toNat)
  case atStart => exact ⟨0, Nat.zero_le _, rfl, rfl, rfl⟩
  case round =>
    obtain ⟨k, hk, rfl, hf, rfl⟩ := hrel
    by_cases hlt : k < n
    · obtain ⟨b, e, hc⟩ := hI.pos (by omega)
      cases e
      have c0 := hc k hlt
      have i1 : (0 : Int) ≤ (k : Int) := by omega
      have i2 : (k : Int) < (n : Int) := by omega
      have HF : Hid (fnd f x (k + 1) = if f k = x then some k else none) := by show fnd f x (k + 1) = _; simp only [fnd, hf]
      clear hc hf
      generalize f k = y at *
      by_cases h : y = x
      · subst h
        have g1 : (y == y) = true := by simp
        have hs : fnd f y (k + 1) = some k := by rw [HF.out]; simp
        go_wp2_with fail
        go_ret
        rw [fnd_mono hs n (by omega)]
        exact ⟨rfl, rfl⟩
      · have g1 : (x == y) = false := by simp; omega
        have hs : fnd f x (k + 1) = none := by rw [HF.out]; simp [h]
        have HS : Hid (fnd f x (k + 1) = none) := hs
        clear hs HF
        go_wp2_with fail
        go_roundw
        case rel => exact ⟨k + 1, by omega, by go_num, HS.out, by simp⟩
        case measure => simp [intOf]; omega
    · obtain rfl : n = k := by omega
      go_wp2_with fail
      go_ret
      rw [hf]
      exact ⟨rfl, rfl⟩

set_option maxRecDepth 100000 in
theorem cont_any (p : Option Addr) (n c : Nat) (f : Nat → Int) (x : Int) (w : World) (hI : RowI w p n f) (hn : n ≤ 1024) :
    Calls Yba.prog 4 #[.slice p n c, .int .i64 x] w fun e w' => e = .returned (.bool (fnd f x n).isSome) ∧ w' = w := by
  go_enter Yba.func4, Yba.ntmps4
  go_wp2_with fail
  refine (idx_any p n c f x w hI hn).mono ?_
  rintro e w' ⟨rfl, rfl⟩
  cases hf : fnd f x n with
  | none =>
    simp only [idxI]
    go_wp2_with fail
    go_ret
    exact ⟨by rw [hf]; rfl, rfl⟩
  | some j =>
    have := (fnd_some hf).1
    simp only [idxI]
    have g : decide ((0 : Int) ≤ (j : Int)) = true := by simp
    go_wp2_with fail
    go_ret
    exact ⟨by rw [hf]; simp, rfl⟩

set_option maxRecDepth 100000 in
theorem idxF_any (p : Option Addr) (n c : Nat) (f : Nat → Int) (x : Int) (w : World) (hI : RowI w p n f) (hn : n ≤ 1024) :
    Calls Yba.prog 13 #[.slice p n c, .int .i64 x] w fun e w' => e = .returned (.int .i64 (idxI (fnd f x n))) ∧ w' = w := by
  go_enter Yba.func13, Yba.ntmps13
  go_wp2_with fail
  go_loopw [8] (fun s wr => ∃ k : Nat, k ≤ n ∧ s = .int .i64 k ∧ fnd f x k = none ∧ wr = w) (fun s _ => n - (intOf s).toNat)
  case atStart => exact ⟨0, Nat.zero_le _, rfl, rfl, rfl⟩
  case round =>
    obtain ⟨k, hk, rfl, hf, rfl⟩ := hrel
    by_cases hlt : k < n
    · obtain ⟨b, e, hc⟩ := hI.pos (by omega)
      cases e
      have c0 := hc k hlt
      have i1 : (0 : Int) ≤ (k : Int) := by omega
      have i2 : (k : Int) < (n : Int) := by omega
      have HF : Hid (fnd f x (k + 1) = if f k = x then some k else none) := by show fnd f x (k + 1) = _; simp only [fnd, hf]
      clear hc hf
      generalize f k = y at *
      by_cases h : y = x
      · subst h
        have g1 : (y == y) = true := by simp
        have hs : fnd f y (k + 1) = some k := by rw [HF.out]; simp
        go_wp2_with fail
        go_ret
        rw [fnd_mono hs n (by omega)]
        exact ⟨rfl, rfl⟩
      · have g1 : (x == y) = false := by simp; omega
        have hs : fnd f x (k + 1) = none := by rw [HF.out]; simp [h]
        have HS : Hid (fnd f x (k + 1) = none) := hs
        clear hs HF
        go_wp2_with fail
        go_roundw
        case rel => exact ⟨k + 1, by omega, by go_num, HS.out, by simp⟩
        case measure => simp [intOf]; omega
    · obtain rfl : n = k := by omega
      go_wp2_with fail
      go_ret
      rw [hf]
      exact ⟨rfl, rfl⟩

set_option maxRecDepth 100000 in
theorem contF_any (p : Option Addr) (n c : Nat) (f : Nat → Int) (x : Int) (w : World) (hI : RowI w p n f) (hn : n ≤ 1024) :
    Calls Yba.prog 12 #[.slice p n c, .int .i64 x] w fun e w' => e = .returned (.bool (fnd f x n).isSome) ∧ w' = w := by
  go_enter Yba.func12, Yba.ntmps12
  go_wp2_with fail
  refine (idxF_any p n c f x w hI hn).mono ?_
  rintro e w' ⟨rfl, rfl⟩
  cases hf : fnd f x n with
  | none =>
    simp only [idxI]
    go_wp2_with fail
    go_ret
    exact ⟨by rw [hf]; rfl, rfl⟩
  | some j =>
    have := (fnd_some hf).1
    simp only [idxI]
    have g : decide ((0 : Int) ≤ (j : Int)) = true := by simp
    go_wp2_with fail
    go_ret
    exact ⟨by rw [hf]; simp, rfl⟩

/-- what claim answers -/
def clKept (f : Nat → Int) (fi : Nat) (x : Int) : Bool := !decide (x < f fi)
def clRel (f : Nat → Int) (fi kk : Nat) (x : Int) : Int := if x < f fi then 0 else if x = f fi ∨ (fnd (put f fi x) (f fi) kk).isSome = true then 0 else f fi
def clF (f : Nat → Int) (fi : Nat) (x : Int) : Nat → Int := if x < f fi then f else put f fi x

theorem put_cells {w : World} {b n j : Nat} {f : Nat → Int} (h : Cells w b n (fun i => .int .i64 (f i))) (hj : j < n) (x : Int) : Cells (w.setCell ⟨b, j, none⟩ (.int .i64 x)) b n (fun i => .int .i64 (put f j x i)) := by
  refine (h.set hj _).congr fun i hi => ?_
  by_cases e : i = j
  · simp [e, put]
  · simp [e, put]

set_option maxRecDepth 100000 in
theorem claim_any (FH kk fi : Nat) (f : Nat → Int) (x : Int) (w : World) (hC : Cells w FH kk (fun i => .int .i64 (f i))) (hfi : fi < kk) (hk : kk ≤ 6) :
    Calls Yba.prog 11 #[.slice (some ⟨FH, 0, none⟩) kk kk, .int .i64 fi, .int .i64 x] w fun e w' => e = .returned (.tuple #[.bool (clKept f fi x), .int .i64 (clRel f fi kk x)]) ∧ Cells w' FH kk (fun i => .int .i64 (clF f fi x i)) ∧ Keeps (fun b => b = FH) w w' := by
  have c0 := hC.cell fi hfi
  have f0 := hC.free fi hfi
  have HC : Hid (Cells w FH kk (fun i => .int .i64 (f i))) := hC
  have i1 : (0 : Int) ≤ (fi : Int) := by omega
  have i2 : (fi : Int) < (kk : Int) := by omega
  have hc2 := put_cells hC hfi x
  clear hC
  go_enter Yba.func11, Yba.ntmps11
  by_cases h : x < f fi
  · have g1 : decide (x < f fi) = true := by simp [h]
    have q1 : clKept f fi x = false := by simp [clKept, h]
    have q2 : clRel f fi kk x = 0 := by simp [clRel, h]
    have q3 : clF f fi x = f := by simp [clF, h]
    have HQ : Hid (clKept f fi x = false ∧ clRel f fi kk x = 0 ∧ clF f fi x = f) := ⟨q1, q2, q3⟩
    clear q1 q2 q3 hc2
    go_wp2_with fail
    go_ret2
    rw [HQ.out.1, HQ.out.2.1, HQ.out.2.2]
    exact ⟨rfl, HC.out, Keeps.refl _ _⟩
  · have g1 : decide (x < f fi) = false := by simp; omega
    have q1 : clKept f fi x = true := by simp [clKept, h]
    have q3 : clF f fi x = put f fi x := by simp [clF, h]
    have hk1 : Keeps (fun b => b = FH) w (w.setCell ⟨FH, fi, none⟩ (.int .i64 x)) := keep1 _ _ _ _
    have HQ : Hid (clKept f fi x = true ∧ clF f fi x = put f fi x ∧ Cells (w.setCell ⟨FH, fi, none⟩ (.int .i64 x)) FH kk (fun i => .int .i64 (put f fi x i)) ∧ Keeps (fun b => b = FH) w (w.setCell ⟨FH, fi, none⟩ (.int .i64 x))) := ⟨q1, q3, hc2, hk1⟩
    clear q1 q3 hc2 hk1
    by_cases h2 : x = f fi
    · have g2 : (x == f fi) = true := by simp [h2]
      have q2 : clRel f fi kk x = 0 := by simp [clRel, h2]
      have HR : Hid (clRel f fi kk x = 0) := q2
      clear q2 h2 h
      go_wp2_with fail
      go_ret2
      rw [HQ.out.1, HR.out, HQ.out.2.1]
      exact ⟨rfl, HQ.out.2.2.1, HQ.out.2.2.2⟩
    · have g2 : (x == f fi) = false := by simp; omega
      have HR : Hid (clRel f fi kk x = if (fnd (put f fi x) (f fi) kk).isSome = true then 0 else f fi) := by show clRel f fi kk x = _; simp [clRel, h, h2]
      go_wp2_with fail
      refine (contF_any (some ⟨FH, 0, none⟩) kk kk (put f fi x) (f fi) _ ⟨fun _ => ⟨FH, rfl, fun i hi => HQ.out.2.2.1.cell i hi⟩⟩ (by omega)).mono ?_
      rintro e w' ⟨rfl, rfl⟩
      cases hb : (fnd (put f fi x) (f fi) kk).isSome with
      | true =>
        have q : clRel f fi kk x = 0 := by rw [HR.out, hb]; rfl
        have HR2 : Hid (clRel f fi kk x = 0) := q
        clear q
        go_wp2_with fail
        go_ret2
        rw [HQ.out.1, HR2.out, HQ.out.2.1]
        exact ⟨rfl, HQ.out.2.2.1, HQ.out.2.2.2⟩
      | false =>
        have q : clRel f fi kk x = f fi := by rw [HR.out, hb]; rfl
        have HR2 : Hid (clRel f fi kk x = f fi) := q
        clear q
        go_wp2_with fail
        go_ret2
        rw [HQ.out.1, HR2.out, HQ.out.2.1]
        exact ⟨rfl, HQ.out.2.2.1, HQ.out.2.2.2⟩
end Go.Proofs.Ybulkclns
