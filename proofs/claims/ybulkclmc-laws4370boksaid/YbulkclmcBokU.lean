import Derived.Test.YbulkclmcBokL
namespace Go.Proofs.Ybulkclmc
open Go.RowKit

theorem Joined.sorted {na n : Nat} {rk : Nat → Nat} {g g' : Nat → As} {O : Nat → Option As} (h : Joined na g n O) (hs : Same g g' n) (hk : SortedTo rk g' n) : Joined na g' n O := by
  refine ⟨fun i j hi hj e => ?_, fun i hi => ?_, fun k hk' ho i hi => ?_, fun k y hk' ho => ?_⟩
  · by_cases h1 : i < j
    · have := hk i j h1 hj; rw [e] at this; omega
    · by_cases h2 : j < i
      · have := hk j i h2 hi; rw [e] at this; omega
      · omega
  · obtain ⟨l, hl, e⟩ := hs.2 i hi
    rw [← e]; exact h.lt l hl
  · obtain ⟨l, hl, e⟩ := hs.2 i hi
    rw [← e]; exact h.none k hk' ho l hl
  · obtain ⟨i, hi, e1, e2⟩ := h.some k y hk' ho
    obtain ⟨l, hl, e⟩ := hs.1 i hi
    exact ⟨l, hl, e.trans e1, e2⟩

/-- the agent, as union reads it -/
structure UnIn (AG ST JA O P na m : Nat) (rk : Nat → Nat) (has : Nat → Bool) (LP : Nat → Option Addr) (LN LC : Nat → Nat) (f : Nat → Nat → As) (w : World) : Prop where
  a11 : w.cell? ⟨AG, 11, none⟩ = some (.slice (some ⟨ST, 0, none⟩) m m)
  a26 : w.cell? ⟨AG, 26, none⟩ = some (.slice (some ⟨JA, 0, none⟩) na na)
  st : ∀ i, i < m → w.cell? ⟨ST, i * 2, none⟩ = some (.slice (LP i) (LN i) (LC i)) ∧ w.cell? ⟨ST, i * 2 + 1, none⟩ = some (.bool (has i))
  more : ∀ i, i < m → MoreIn w.heap.size JA w (LP i) (LN i) (f i) ∧ LN i ≤ 300 ∧ ∀ j, j < LN i → (f i j).k < na
  z : Cells w JA na (atC (fun _ => 0))
  rk : RkIn AG O P na rk w
  nAJ : ¬ AG = JA
  nSJ : ¬ ST = JA
  nOJ : ¬ O = JA
  nPJ : ¬ P = JA

/-- what union hands over -/
structure UnOut (JA na : Nat) (rk : Nat → Nat) (sv : Value) (g : Nat → As) (n : Nat) (O : Nat → Option As) (w w' : World) : Prop where
  nil : n = 0 → sv = .slice none 0 0
  pos : 0 < n → ∃ R cap, sv = .slice (some ⟨R, 0, none⟩) n cap ∧ w.heap.size ≤ R ∧ Cells w' R (n * 3) (asC g)
  j : Joined na g n O
  s : SortedTo rk g n
  z : Cells w' JA na (atC (fun _ => 0))
  kp : Keeps (fun b => b = JA) w w'

def UnPost (JA na : Nat) (rk : Nat → Nat) (O : Nat → Option As) (w : World) (e : Ending) (w' : World) : Prop := ∃ sv g n, e = .returned sv ∧ UnOut JA na rk sv g n O w w'

theorem MoreIn.up {B B' JA : Nat} {w w' : World} {mp : Option Addr} {mn : Nat} {f : Nat → As} (h : MoreIn B JA w mp mn f) (hb : Below w.heap.size w w') (hB : B ≤ B') : MoreIn B' JA w' mp mn f :=
  ⟨fun hn => by obtain ⟨M, e, h1, h2, hc⟩ := h.pos hn; exact ⟨M, e, by omega, h2, fun i hi => cell_later hb (hc i hi)⟩⟩

theorem Keeps.new {JA B : Nat} {w w' : World} (h : Keeps (fun b => b = JA ∨ B ≤ b) w w') (hB : w.heap.size ≤ B) : Keeps (fun b => b = JA) w w' :=
  ⟨h.os, h.tape, h.output, h.size, fun k hk hs => h.block k hk (fun e => by rcases e with e | e; exact hs e; omega)⟩

set_option maxRecDepth 100000 in
set_option maxHeartbeats 2000000 in
theorem union_any (AG ST JA O P na m : Nat) (rk : Nat → Nat) (has : Nat → Bool) (LP : Nat → Option Addr) (LN LC : Nat → Nat) (f : Nat → Nat → As) (w : World) (hI : UnIn AG ST JA O P na m rk has LP LN LC f w) (hinj : ∀ a b, a < na → b < na → rk a = rk b → a = b) (hm : m ≤ 301) (hna : na ≤ 6) :
    Calls Yba.prog 21 #[.pointer (some ⟨AG, 0, none⟩)] w fun e w' => UnPost JA na rk (fun k => bestAll k has LN f m) w e w' := by
  have HI : Hid (UnIn AG ST JA O P na m rk has LP LN LC f w) := hI
  have HN : Hid (∀ a b, a < na → b < na → rk a = rk b → a = b) := hinj
  have a11 := hI.a11
  have hAl : AG < w.heap.size := World.block_lt_of_cell? _ _ a11
  have hJl : JA < w.heap.size := hI.z.lt
  clear hI hinj
  go_enter Yba.func21, Yba.ntmps21
  go_wp2_with fail
  have hb0 : Below w.heap.size w (w.alloc (.cells #[.pointer (some ⟨AG, 0, none⟩)] 33)) := bl_new (Below.refl _ _) _
  have x0 : (w.alloc (.cells #[.pointer (some ⟨AG, 0, none⟩)] 33)).cell? ⟨w.heap.size, 0, none⟩ = some (.pointer (some ⟨AG, 0, none⟩)) := World.cell?_alloc_at _ _ _ 0 rfl
  have hsz0 : (w.alloc (.cells #[.pointer (some ⟨AG, 0, none⟩)] 33)).heap.size = w.heap.size + 1 := by simp
  generalize w.alloc (.cells #[.pointer (some ⟨AG, 0, none⟩)] 33) = W0 at *
  go_loopw [3, 11] (fun s3 x wr => ∃ i : Nat, i ≤ m ∧ x = .int .i64 i ∧ ∃ sp n sc g, s3 = .slice sp n sc ∧ JoinOut JA na (w.heap.size + 1) (.slice sp n sc) g n (fun k => bestAll k has LN f i) W0 wr) (fun _ x _ => m - (intOf x).toNat)
  case atStart => exact ⟨0, Nat.zero_le _, rfl, none, 0, 0, fun _ => ⟨0, 0, 0⟩, rfl, ⟨RowA.nil _ _ _, Joined.zero na _, HI.out.z.later hb0, Keeps.refl _ _⟩⟩
  case round =>
    obtain ⟨i, hi, rfl, sp, n, sc, g, rfl, hO⟩ := hrel
    by_cases hlt : i < m
    · obtain ⟨s0, s1⟩ := HI.out.st i hlt
      have hSl : ST < w.heap.size := World.block_lt_of_cell? _ _ s0
      have nS := HI.out.nSJ
      have nA := HI.out.nAJ
      have k0 := hO.kp.cell (p := ⟨ST, i * 2, none⟩) (by show ¬ (ST = JA ∨ w.heap.size + 1 ≤ ST); omega) (cell_later hb0 s0)
      have k1 := hO.kp.cell (p := ⟨ST, i * 2 + 1, none⟩) (by show ¬ (ST = JA ∨ w.heap.size + 1 ≤ ST); omega) (cell_later hb0 s1)
      have kx := hO.kp.cell (p := ⟨w.heap.size, 0, none⟩) (by show ¬ (w.heap.size = JA ∨ w.heap.size + 1 ≤ w.heap.size); omega) x0
      have k26 := hO.kp.cell (p := ⟨AG, 26, none⟩) (by show ¬ (AG = JA ∨ w.heap.size + 1 ≤ AG); omega) (cell_later hb0 HI.out.a26)
      have hws := hO.kp.size
      have HO : Hid (JoinOut JA na (w.heap.size + 1) (.slice sp n sc) g n (fun k => bestAll k has LN f i) W0 wr) := hO
      have e1 : ¬ wr.heap.size = w.heap.size := by omega
      have e2 : ¬ w.heap.size = wr.heap.size := by omega
      have i1 : (0 : Int) ≤ (i : Int) := by omega
      have i2 : (i : Int) < (m : Int) := by omega
      clear hO s0 s1
      have HB : Hid (∀ k, bestAll k has LN f (i + 1) = if has i then bestTo k (bestAll k has LN f i) (f i) (LN i) else bestAll k has LN f i) := fun k => rfl
      have hbC : Below wr.heap.size wr (wr.alloc (.cells #[.slice (LP i) (LN i) (LC i), .bool (has i)] 60)) := bl_new (Below.refl _ _) _
      cases hh : has i with
      | false =>
        rw [hh] at HB k1 hbC
        go_wp2_with fail
        go_roundw
        case rel =>
          obtain ⟨o1, o2, o3, o4⟩ := HO.out
          exact ⟨i + 1, by omega, by go_num, sp, n, sc, g, rfl, o1.later hbC, o2.congr (fun k _ => by rw [HB.out k]; rfl), o3.later hbC, o4.trans (Keeps.of_below hbC)⟩
        case measure => simp [intOf]; omega
      | true =>
        rw [hh] at HB k1 hbC
        have kx2 := cell_later hbC kx
        go_wp2_with fail
        have hJO := HO.out
        obtain ⟨hM, hl, hk⟩ := HI.out.more i hlt
        have hM2 := ((hM.up hb0 (show w.heap.size ≤ w.heap.size + 1 by omega)).keeps hJO.kp)
        have hM3 := hM2.up hbC (Nat.le_refl _)
        refine (join_any AG JA na (w.heap.size + 1) (LN i) (LC i) (.slice sp n sc) g n (fun k => bestAll k has LN f i) (LP i) (f i) _ (cell_later hbC k26) (hJO.z.later hbC) (hJO.row.later hbC) hJO.j hM3 hk hl hna (by omega) (by have := hbC.size; omega)).mono ?_
        rintro e w5 ⟨sv5, g5, n5, rfl, hO5⟩
        obtain ⟨sp5, sc5, rfl⟩ := hO5.row.val
        have HO5 : Hid (JoinOut JA na (w.heap.size + 1) (.slice sp5 n5 sc5) g5 n5 (fun k => bestTo k (bestAll k has LN f i) (f i) (LN i)) (wr.alloc (.cells #[.slice (LP i) (LN i) (LC i), .bool true] 60)) w5) := hO5
        clear hO5 hM hM2 hM3
        go_wp2_with fail
        go_roundw
        case rel =>
          obtain ⟨o1, o2, o3, o4⟩ := HO5.out
          exact ⟨i + 1, by omega, by go_num, sp5, n5, sc5, g5, rfl, o1, o2.congr (fun k _ => by rw [HB.out k]; rfl), o3, (HO.out.kp.trans (Keeps.of_below hbC)).trans o4⟩
        case measure => simp [intOf]; omega
    · obtain rfl : m = i := by omega
      obtain ⟨W2, rfl⟩ : ∃ x, x = wr := ⟨wr, rfl⟩
      have nA := HI.out.nAJ
      have nO := HI.out.nOJ
      have nP := HI.out.nPJ
      have kx := hO.kp.cell (p := ⟨w.heap.size, 0, none⟩) (by show ¬ (w.heap.size = JA ∨ w.heap.size + 1 ≤ w.heap.size); omega) x0
      have hOl : O < w.heap.size := World.block_lt_of_cell? _ _ HI.out.rk.o3
      by_cases hn : n = 0
      · have hv : sp = none ∧ sc = 0 := by
          obtain ⟨xs, _, _, h⟩ := hO.row
          have := h hn
          simp at this
          exact ⟨this.1, this.2.2⟩
        obtain ⟨rfl, rfl⟩ := hv
        subst hn
        have HO : Hid (JoinOut JA na (w.heap.size + 1) (.slice none 0 0) g 0 (fun k => bestAll k has LN f m) W0 W2) := hO
        clear hO
        go_wp2_with fail
        refine (sort_nil _ _).mono ?_
        rintro e w' ⟨rfl, hw⟩
        subst hw
        go_wp2_with fail
        go_ret
        obtain ⟨o1, o2, o3, o4⟩ := HO.out
        exact ⟨_, g, 0, rfl, fun _ => rfl, fun h => by omega, o2, fun a b h1 h2 => by omega, o3, ((Keeps.of_below hb0).trans o4).new (by omega)⟩
      · obtain ⟨R, cap, hv, hBR, hCR⟩ := hO.row.form (by omega)
        cases hv
        have hn6 := hO.j.le
        have HO : Hid (JoinOut JA na (w.heap.size + 1) (.slice (some ⟨R, 0, none⟩) n sc) g n (fun k => bestAll k has LN f m) W0 W2) := hO
        have hRk : RkIn AG O P na rk W2 := by
          have hr := HI.out.rk.later hb0
          refine ⟨hO.kp.cell (p := ⟨AG, 6, none⟩) (by show ¬ (AG = JA ∨ w.heap.size + 1 ≤ AG); omega) hr.a6, hO.kp.cell (p := ⟨O, 3, none⟩) (by show ¬ (O = JA ∨ w.heap.size + 1 ≤ O); omega) hr.o3, fun k hk => ?_, hr.lt⟩
          have hPl : P < w.heap.size := World.block_lt_of_cell? _ _ (HI.out.rk.p k hk)
          exact hO.kp.cell (p := ⟨P, k, none⟩) (by show ¬ (P = JA ∨ w.heap.size + 1 ≤ P); omega) (hr.p k hk)
        have hD : LtD rk na g n := ⟨hO.j.lt, fun a b ha hb e => hO.j.dis a b ha hb (HN.out _ _ (hO.j.lt a ha) (hO.j.lt b hb) e)⟩
        have nPR : ¬ P = R := by
          have h0 : 0 < na := by omega
          have hPl : P < w.heap.size := World.block_lt_of_cell? _ _ (HI.out.rk.p 0 h0)
          omega
        clear hO
        go_wp2_with fail
        refine (sort_any AG O P na w.heap.size R n sc rk g W2 hRk kx hCR (by omega) (by omega) hna hD (by omega) (by omega) nPR (by omega)).mono ?_
        rintro e w' ⟨rfl, g', hS⟩
        go_wp2_with fail
        go_ret
        obtain ⟨o1, o2, o3, o4⟩ := HO.out
        have hk := hS.kp.weak (T := fun b => b = JA ∨ w.heap.size + 1 ≤ b) (fun b h => Or.inr (by rw [h]; exact hBR))
        exact ⟨_, g', n, rfl, fun h => absurd h hn, fun _ => ⟨R, sc, rfl, by omega, hS.c⟩, o2.sorted hS.same hS.s, hS.s, hS.kp.cells (by omega) o3, (((Keeps.of_below hb0).trans o4).trans hk).new (by omega)⟩
end Go.Proofs.Ybulkclmc
