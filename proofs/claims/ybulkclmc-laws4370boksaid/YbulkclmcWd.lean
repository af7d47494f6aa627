import Derived.Test.YbulkclmcMem
namespace Go.Proofs.Ybulkclmc
open Go.RowKit

/-- w' is w but for new blocks and for the blocks in S. -/
structure Keeps (S : Nat → Prop) (w w' : World) : Prop where
  os : w'.os = w.os
  tape : w'.tape = w.tape
  output : w'.output = w.output
  size : w.heap.size ≤ w'.heap.size
  block : ∀ k, k < w.heap.size → ¬ S k → w'.heap[k]? = w.heap[k]?

theorem Keeps.refl (S : Nat → Prop) (w : World) : Keeps S w w := ⟨rfl, rfl, rfl, Nat.le_refl _, fun _ _ _ => rfl⟩
theorem Keeps.trans {S : Nat → Prop} {a b c : World} (h : Keeps S a b) (k : Keeps S b c) : Keeps S a c :=
  ⟨k.os.trans h.os, k.tape.trans h.tape, k.output.trans h.output, Nat.le_trans h.size k.size, fun i hi hs => (k.block i (Nat.lt_of_lt_of_le hi h.size) hs).trans (h.block i hi hs)⟩
theorem Keeps.weak {S T : Nat → Prop} {a b : World} (h : Keeps S a b) (hST : ∀ k, S k → T k) : Keeps T a b :=
  ⟨h.os, h.tape, h.output, h.size, fun i hi hs => h.block i hi (fun x => hs (hST i x))⟩
theorem Keeps.alloc {S : Nat → Prop} {a w : World} (h : Keeps S a w) (o : Obj) : Keeps S a (w.alloc o) :=
  h.trans ⟨rfl, rfl, rfl, by simp, fun k hk _ => Below.heap_alloc _ _ _ hk⟩
theorem Keeps.setCell {S : Nat → Prop} {a w : World} (h : Keeps S a w) {p : Addr} (hp : S p.block) (u : Value) : Keeps S a (w.setCell p u) :=
  h.trans ⟨rfl, rfl, rfl, by simp [World.setCell], fun k _ hs => Below.heap_setCell _ _ _ _ (fun e => hs (e ▸ hp))⟩
theorem Keeps.setNew {S : Nat → Prop} {a w : World} (h : Keeps S a w) {p : Addr} (hp : a.heap.size ≤ p.block) (u : Value) : Keeps S a (w.setCell p u) :=
  ⟨h.os, h.tape, h.output, by simpa [World.setCell] using h.size, fun k hk hs => (Below.heap_setCell _ _ _ _ (by omega)).trans (h.block k hk hs)⟩
theorem Keeps.drewN {S : Nat → Prop} {a w : World} (h : Keeps S a w) (q : Nat) : Keeps S a (w.drewN q) := ⟨h.os, h.tape, h.output, h.size, h.block⟩
theorem Keeps.drew {S : Nat → Prop} {a w : World} (h : Keeps S a w) : Keeps S a w.drew := ⟨h.os, h.tape, h.output, h.size, h.block⟩
theorem Keeps.cell {S : Nat → Prop} {w w' : World} (h : Keeps S w w') {p : Addr} {v : Value} (hp : ¬ S p.block) (hc : w.cell? p = some v) : w'.cell? p = some v :=
  (World.cell?_of_block (w := w) (h.block p.block (World.block_lt_of_cell? _ _ hc) hp)).trans hc
theorem Keeps.cells {S : Nat → Prop} {w w' : World} (h : Keeps S w w') {b n : Nat} {f : Nat → Value} (hp : ¬ S b) (hc : Cells w b n f) : Cells w' b n f :=
  ⟨fun i hi => (World.cell?_of_block (w := w) (a := ⟨b, i, none⟩) (h.block b hc.lt hp)).trans (hc.cell i hi), fun i hi => (World.frozen?_of_block (w := w) (a := ⟨b, i, none⟩) (h.block b hc.lt hp)).trans (hc.free i hi), Nat.lt_of_lt_of_le hc.lt h.size⟩
theorem Keeps.below {S : Nat → Prop} {w w' : World} (h : Keeps S w w') {B : Nat} (hB : B ≤ w.heap.size) (hS : ∀ k, S k → B ≤ k) : Below B w w' :=
  ⟨h.os, h.tape, h.output, h.size, fun k hk => h.block k (by omega) (fun s => by have := hS k s; omega)⟩
theorem Keeps.of_below {S : Nat → Prop} {w w' : World} (h : Below w.heap.size w w') : Keeps S w w' := ⟨h.os, h.tape, h.output, h.size, fun k hk _ => h.block k hk⟩

/-- an agent's fields that are read here -/
def sumTo (kn : Nat → Bool) (oth : Nat → Nat) (wt : Nat → Int) : Nat → Int
  | 0 => 1
  | k + 1 => sumTo kn oth wt k + if kn (oth k) then 0 else wt k

theorem sumTo_rng {kn : Nat → Bool} {oth : Nat → Nat} {wt : Nat → Int} (h : ∀ x, 0 ≤ wt x ∧ wt x ≤ 255) (k : Nat) : 1 ≤ sumTo kn oth wt k ∧ sumTo kn oth wt k ≤ 1 + 255 * (k : Int) := by
  induction k with
  | zero => simp [sumTo]
  | succ k ih =>
    have := h k
    simp only [sumTo]
    split <;> omega

structure WdIn (AG ARC V WS RP na m me : Nat) (deg : Int) (oth : Nat → Nat) (kn : Nat → Bool) (wt : Nat → Int) (arcF viewF repF : Nat → Value) (w : World) : Prop where
  aid : w.cell? ⟨AG, 0, none⟩ = some (.int .i64 me)
  a3 : w.cell? ⟨AG, 3, none⟩ = some (.slice (some ⟨ARC, 0, none⟩) m m)
  a10 : w.cell? ⟨AG, 10, none⟩ = some (.slice (some ⟨V, 0, none⟩) na na)
  a15 : w.cell? ⟨AG, 15, none⟩ = some (.slice (some ⟨WS, 0, none⟩) m m)
  a16 : w.cell? ⟨AG, 16, none⟩ = some (.int .i64 deg)
  a17 : w.cell? ⟨AG, 17, none⟩ = some (.slice (some ⟨RP, 0, none⟩) na na)
  f16 : w.frozen? ⟨AG, 16, none⟩ = false
  arc : Cells w ARC (m * 3) arcF
  arcE : ∀ x, x < m → arcF (x * 3) = .int .i64 (oth x) ∧ arcF (x * 3 + 1) = .pointer none ∧ arcF (x * 3 + 2) = .bool false
  view : Cells w V (na * 4) viewF
  viewE : ∀ k, k < na → viewF (k * 4 + 3) = .bool (kn k)
  ws : Cells w WS m (fun x => .int .i64 (wt x))
  rep : Cells w RP na repF
  othL : ∀ x, x < m → oth x < na
  wtR : ∀ x, 0 ≤ wt x ∧ wt x ≤ 255

theorem WdIn.keeps {S : Nat → Prop} {AG ARC V WS RP na m me : Nat} {deg : Int} {oth : Nat → Nat} {kn : Nat → Bool} {wt : Nat → Int} {arcF viewF repF : Nat → Value} {w w' : World}
    (h : WdIn AG ARC V WS RP na m me deg oth kn wt arcF viewF repF w) (k : Keeps S w w') (h1 : ¬ S AG) (h2 : ¬ S ARC) (h3 : ¬ S V) (h4 : ¬ S WS) (h5 : ¬ S RP) : WdIn AG ARC V WS RP na m me deg oth kn wt arcF viewF repF w' := by
  refine ⟨k.cell h1 h.aid, k.cell h1 h.a3, k.cell h1 h.a10, k.cell h1 h.a15, k.cell h1 h.a16, k.cell h1 h.a17, ?_, k.cells h2 h.arc, h.arcE, k.cells h3 h.view, h.viewE, k.cells h4 h.ws, k.cells h5 h.rep, h.othL, h.wtR⟩
  rw [World.frozen?_of_block (w := w) (a := ⟨AG, 16, none⟩) (k.block AG (World.block_lt_of_cell? _ _ h.a16) h1)]
  exact h.f16

def wdVal (deg s : Int) : Int := if deg < if 1000 < s then 1000 else s then if 1000 < s then 1000 else s else deg

structure WdOut (AG RP na me : Nat) (D : Int) (repF : Nat → Value) (w w' : World) : Prop where
  a16 : w'.cell? ⟨AG, 16, none⟩ = some (.int .i64 D)
  rep : Cells w' RP na (fun i => if i = me then .int .i64 D else repF i)
  kp : Keeps (fun b => b = AG ∨ b = RP) w w'
  ag : ∀ i, i ≠ 16 → w'.cell? ⟨AG, i, none⟩ = w.cell? ⟨AG, i, none⟩

set_option maxRecDepth 100000 in
set_option maxHeartbeats 400000 in
theorem wdeg_any (AG ARC V WS RP na m me : Nat) (deg : Int) (oth : Nat → Nat) (kn : Nat → Bool) (wt : Nat → Int) (arcF viewF repF : Nat → Value) (w : World)
    (hI : WdIn AG ARC V WS RP na m me deg oth kn wt arcF viewF repF w) (hm : m ≤ 1024) (_hna : na ≤ 6) (hme : me < na) (hAR : ¬ AG = RP) :
    Calls Yba.prog 22 #[.pointer (some ⟨AG, 0, none⟩)] w fun e w' => e = .returned (.int .i64 (wdVal deg (sumTo kn oth wt m))) ∧ WdOut AG RP na me (wdVal deg (sumTo kn oth wt m)) repF w w' := by
  have a3 := hI.a3
  have hAG : AG < w.heap.size := World.block_lt_of_cell? _ _ a3
  go_enter Yba.func22, Yba.ntmps22
  go_wp2
  go_loopw [3, 11] (fun d x wr => ∃ k : Nat, k ≤ m ∧ x = .int .i64 k ∧ d = .int .i64 (sumTo kn oth wt k) ∧ Keeps (fun _ => False) w wr) (fun _ x _ => m - (intOf x).toNat)
  case atStart => exact ⟨0, Nat.zero_le _, rfl, rfl, Keeps.refl _ _⟩
  case round =>
    obtain ⟨k, hk, rfl, rfl, hK⟩ := hrel
    have hR := hI.keeps hK (fun x => x) (fun x => x) (fun x => x) (fun x => x) (fun x => x)
    have hs := sumTo_rng (kn := kn) (oth := oth) (wt := wt) hI.wtR k
    by_cases hlt : k < m
    · have c0 := hR.arc.cell (k * 3) (by omega)
      have c1 := hR.arc.cell (k * 3 + 1) (by omega)
      have c2 := hR.arc.cell (k * 3 + 2) (by omega)
      obtain ⟨e0, e1, e2⟩ := hI.arcE k hlt
      rw [e0] at c0
      rw [e1] at c1
      rw [e2] at c2
      clear e0 e1 e2
      have a10 := hR.a10
      have a15 := hR.a15
      have hol := hI.othL k hlt
      have v3 := hR.view.cell (oth k * 4 + 3) (by omega)
      rw [hI.viewE _ hol] at v3
      have w3 := hR.ws.cell k hlt
      have hAGr : AG < wr.heap.size := World.block_lt_of_cell? _ _ a10
      have hVr : V < wr.heap.size := World.block_lt_of_cell? _ _ v3
      have hWr : WS < wr.heap.size := World.block_lt_of_cell? _ _ w3
      have hwt := hI.wtR k
      have HS : Hid (sumTo kn oth wt (k + 1) = sumTo kn oth wt k + if kn (oth k) then 0 else wt k) := rfl
      have HK : Hid (Keeps (fun _ => False) w wr) := hK
      have HI : Hid (WdIn AG ARC V WS RP na m me deg oth kn wt arcF viewF repF w) := hI
      clear hR hI hK
      generalize sumTo kn oth wt k = s at *
      generalize oth k = q at *
      generalize wt k = t at *
      cases hkn : kn q with
      | true =>
        rw [hkn] at v3 HS
        go_upto_region 5 with fail
        go_quiet (fail)
        go_wp2
        go_roundw
        case rel => exact ⟨k + 1, by omega, by go_num, by rw [HS.out]; simp, (HK.out.alloc _).drewN _⟩
        case measure => simp [intOf]; omega
      | false =>
        rw [hkn] at v3 HS
        go_upto_region 5 with fail
        go_quiet (fail)
        go_wp2
        go_roundw
        case rel => exact ⟨k + 1, by omega, by go_num, by rw [HS.out]; simp, (HK.out.alloc _).drewN _⟩
        case measure => simp [intOf]; omega
    · obtain rfl : k = m := by omega
      have a16 := hR.a16
      have a17 := hR.a17
      have aid := hR.aid
      have f16 := hR.f16
      have r1 := hR.rep.cell me hme
      have r2 := hR.rep.free me hme
      have hAGr : AG < wr.heap.size := World.block_lt_of_cell? _ _ a16
      have hrep := hR.rep
      have hKw : ∀ i, wr.cell? ⟨AG, i, none⟩ = w.cell? ⟨AG, i, none⟩ := fun i => World.cell?_of_block (w := w) (a := ⟨AG, i, none⟩) (hK.block AG hAG (fun x => x))
      have HKw : Hid (∀ i, wr.cell? ⟨AG, i, none⟩ = w.cell? ⟨AG, i, none⟩) := hKw
      have HK : Hid (Keeps (fun _ => False) w wr) := hK
      clear hI hR hK hKw a3
      obtain ⟨s, hse⟩ : ∃ s, s = sumTo kn oth wt k := ⟨_, rfl⟩
      have HSE : Hid (s = sumTo kn oth wt k) := hse
      rw [← hse] at hs ⊢
      clear hse
      have hne : ¬ AG = RP := hAR
      have hne' : ¬ RP = AG := fun h => hAR h.symm
      go_upto_region 9 with fail
      have e0 : (if deg < if 1000 < s then 1000 else s then if 1000 < s then 1000 else s else deg) = wdVal deg s := rfl
      rw [e0]
      clear e0
      obtain ⟨D, hDe⟩ : ∃ D, D = wdVal deg s := ⟨_, rfl⟩
      have HD : Hid (D = wdVal deg s) := hDe
      rw [← hDe]
      clear hDe
      have g17 : (wr.setCell ⟨AG, 16, none⟩ (.int .i64 D)).cell? ⟨AG, 17, none⟩ = some (.slice (some ⟨RP, 0, none⟩) na na) := by go_simp
      have g0 : (wr.setCell ⟨AG, 16, none⟩ (.int .i64 D)).cell? ⟨AG, 0, none⟩ = some (.int .i64 me) := by go_simp
      have g16 : (wr.setCell ⟨AG, 16, none⟩ (.int .i64 D)).cell? ⟨AG, 16, none⟩ = some (.int .i64 D) := by go_simp
      have grep := hrep.other (b' := AG) (j := 16) (Ne.symm hAR) (.int .i64 D)
      have gk : Keeps (fun b => b = AG ∨ b = RP) w (wr.setCell ⟨AG, 16, none⟩ (.int .i64 D)) := (HK.out.weak (fun _ h => h.elim)).setCell (Or.inl rfl) _
      have gag : ∀ i, i ≠ 16 → (wr.setCell ⟨AG, 16, none⟩ (.int .i64 D)).cell? ⟨AG, i, none⟩ = w.cell? ⟨AG, i, none⟩ := fun i hi => by
        rw [cell_setCell wr AG 16 i _ (by rw [a16]; rfl), if_neg hi]; exact HKw.out i
      have HG : Hid (Cells (wr.setCell ⟨AG, 16, none⟩ (.int .i64 D)) RP na repF ∧ Keeps (fun b => b = AG ∨ b = RP) w (wr.setCell ⟨AG, 16, none⟩ (.int .i64 D)) ∧ ∀ i, i ≠ 16 → (wr.setCell ⟨AG, 16, none⟩ (.int .i64 D)).cell? ⟨AG, i, none⟩ = w.cell? ⟨AG, i, none⟩) := ⟨grep, gk, gag⟩
      have q1 := grep.cell me hme
      have q2 := grep.free me hme
      clear grep gk gag a16 a17 aid f16 r1 r2 hrep HKw HK
      generalize wr.setCell ⟨AG, 16, none⟩ (.int .i64 D) = W at *
      go_region_held3 (fun w' => w'.cell? ⟨AG, 17, none⟩ = some (.slice (some ⟨RP, 0, none⟩) na na) ∧ w'.cell? ⟨AG, 0, none⟩ = some (.int .i64 me) ∧ w'.cell? ⟨AG, 16, none⟩ = some (.int .i64 D)) (go_keep) (fail)
      go_wp2
      all_goals
        go_ret
        rw [← HSE.out, ← HD.out]
        obtain ⟨grep, gk, gag⟩ := HG.out
        have q3 : ∀ i, (W.setCell ⟨RP, me, none⟩ (.int .i64 D)).drew.cell? ⟨AG, i, none⟩ = W.cell? ⟨AG, i, none⟩ := fun i => World.cell?_of_block (w := W) (a := ⟨AG, i, none⟩) (Below.heap_setCell _ _ _ _ hne)
        exact ⟨rfl, ⟨(q3 16).trans g16, (grep.set hme _).drew, (gk.setCell (Or.inr rfl) _).drew, fun i hi => (q3 i).trans (gag i hi)⟩⟩
end Go.Proofs.Ybulkclmc
