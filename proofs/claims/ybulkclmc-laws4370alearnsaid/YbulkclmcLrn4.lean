import Derived.Test.YbulkclmcLrn3
namespace Go.Proofs.Ybulkclmc
open Go.RowKit

def upd {α : Type} (f : Nat → α) (k : Nat) (x : α) (j : Nat) : α := if j = k then x else f j

theorem vw_new {w : World} {V n ag : Nat} {va vt vp : Nat → Int} {vk : Nat → Bool} (h : Cells w V (n * 4) (vwOf va vt vp vk)) (hag : ag < n) (v t : Int) :
    Cells (((w.setCell ⟨V, ag * 4, none⟩ (.int .i64 v)).setCell ⟨V, ag * 4 + 1, none⟩ (.int .i64 t)).setCell ⟨V, ag * 4 + 3, none⟩ (.bool true)) V (n * 4) (vwOf (upd va ag v) (upd vt ag t) vp (upd vk ag true)) := by
  refine (((h.set (j := ag * 4) (by omega) _).set (j := ag * 4 + 1) (by omega) _).set (j := ag * 4 + 3) (by omega) _).congr fun i hi => ?_
  have hi4 : i = i / 4 * 4 + i % 4 := by omega
  by_cases e : i / 4 = ag
  · have : i % 4 = 0 ∨ i % 4 = 1 ∨ i % 4 = 2 ∨ i % 4 = 3 := by omega
    rcases this with e4 | e4 | e4 | e4
    · obtain rfl : i = ag * 4 := by omega
      simp [vwOf0, upd]
    · obtain rfl : i = ag * 4 + 1 := by omega
      simp [vwOf1, upd]
    · obtain rfl : i = ag * 4 + 2 := by omega
      simp [vwOf2]
    · obtain rfl : i = ag * 4 + 3 := by omega
      simp [vwOf3, upd]
  · have n0 : ¬ i = ag * 4 := by omega
    have n1 : ¬ i = ag * 4 + 1 := by omega
    have n3 : ¬ i = ag * 4 + 3 := by omega
    simp [n0, n1, n3, vwOf, upd, e]

theorem vw_pos {w : World} {V n ag : Nat} {va vt vp : Nat → Int} {vk : Nat → Bool} (h : Cells w V (n * 4) (vwOf va vt vp vk)) (hag : ag < n) (x : Int) :
    Cells (w.setCell ⟨V, ag * 4 + 2, none⟩ (.int .i64 x)) V (n * 4) (vwOf va vt (upd vp ag x) vk) := by
  refine (h.set (j := ag * 4 + 2) (by omega) _).congr fun i hi => ?_
  by_cases e : i = ag * 4 + 2
  · subst e; simp [vwOf2, upd]
  · simp only [e, if_false, vwOf]
    by_cases e2 : i % 4 = 2
    · have : ¬ i / 4 = ag := by omega
      simp [e2, upd, this]
    · simp [e2]

/-- the stored nogoods, two cells each -/
def stOf (S : Nat → Lhs) (has : Nat → Bool) (i : Nat) : Value := if i % 2 = 0 then (S (i / 2)).val else .bool (has (i / 2))
theorem stOf0 (S : Nat → Lhs) (has : Nat → Bool) (k : Nat) : stOf S has (k * 2) = (S k).val := by
  simp [stOf, show k * 2 / 2 = k from by omega]
theorem stOf1 (S : Nat → Lhs) (has : Nat → Bool) (k : Nat) : stOf S has (k * 2 + 1) = .bool (has k) := by
  simp [stOf, show (k * 2 + 1) / 2 = k from by omega, show (k * 2 + 1) % 2 = 1 from by omega]

theorem st_set {w : World} {b m k : Nat} {S : Nat → Lhs} {has : Nat → Bool} (h : Cells w b (m * 2) (stOf S has)) (hk : k < m) (x : Bool) : Cells (w.setCell ⟨b, k * 2 + 1, none⟩ (.bool x)) b (m * 2) (stOf S (upd has k x)) := by
  refine (h.set (j := k * 2 + 1) (by omega) _).congr fun i hi => ?_
  by_cases e : i = k * 2 + 1
  · subst e; simp [stOf1, upd]
  · simp only [e, if_false, stOf]
    by_cases e2 : i % 2 = 0
    · simp [e2]
    · have : ¬ i / 2 = k := by omega
      simp [e2, upd, this]

def ptr (o : Option Nat) : Value := .pointer (o.map fun b => ⟨b, 0, none⟩)
def exOf (X : Nat → Option Nat) (i : Nat) : Value := ptr (X i)

theorem ex_set {w : World} {b m k : Nat} {X : Nat → Option Nat} (h : Cells w b m (exOf X)) (hk : k < m) (x : Option Nat) : Cells (w.setCell ⟨b, k, none⟩ (ptr x)) b m (exOf (upd X k x)) := by
  refine (h.set hk _).congr fun i hi => ?_
  by_cases e : i = k
  · subst e; simp [exOf, upd]
  · simp [e, exOf, upd]

/-- an explanation that is there -/
structure ExOk (lo : Nat) (w : World) (x : Option Nat) (e : Lhs) : Prop where
  ok : ∀ b, x = some b → lo ≤ b ∧ w.cell? ⟨b, 0, none⟩ = some e.val ∧ LhsOk lo w e

theorem ExOk.keeps {lo : Nat} {S : Nat → Prop} {w w' : World} {x : Option Nat} {e : Lhs} (h : ExOk lo w x e) (k : Keeps S w w') (hS : ∀ b, lo ≤ b → ¬ S b) : ExOk lo w' x e :=
  ⟨fun b hb => by obtain ⟨h1, h2, h3⟩ := h.ok b hb; exact ⟨h1, k.cell (hS b h1) h2, h3.keeps k hS⟩⟩

def hasTo (S : Nat → Lhs) (has : Nat → Bool) (ag v : Int) (k i : Nat) : Bool := if i < k then has i && !(S i).dis ag v else has i
def exTo (X : Nat → Option Nat) (E : Nat → Lhs) (ag v : Int) (k i : Nat) : Option Nat := if i < k ∧ (E i).dis ag v = true then none else X i

/-- what learn leaves -/
structure LrnOut (V ST EX n ns ag : Nat) (v t : Int) (va vt vp : Nat → Int) (vk : Nat → Bool) (S : Nat → Lhs) (has : Nat → Bool) (X : Nat → Option Nat) (E : Nat → Lhs) (sk ch : Bool) (w w' : World) : Prop where
  view : Cells w' V (n * 4) (vwOf (if sk then va else upd va ag v) (if sk then vt else upd vt ag t) (if ch then upd vp ag (-1) else vp) (if sk then vk else upd vk ag true))
  st : Cells w' ST (ns * 2) (stOf S (fun i => if ch then hasTo S has ag v ns i else has i))
  ex : Cells w' EX n (exOf (fun i => if ch then exTo X E ag v n i else X i))
  kp : Keeps (fun b => b = V ∨ b = ST ∨ b = EX) w w'

def LrnPost (V ST EX n ns ag : Nat) (v t : Int) (va vt vp : Nat → Int) (vk : Nat → Bool) (S : Nat → Lhs) (has : Nat → Bool) (X : Nat → Option Nat) (E : Nat → Lhs) (sk ch : Bool) (w : World) (e : Ending) (w' : World) : Prop :=
  (∃ x, e = .returned x) ∧ LrnOut V ST EX n ns ag v t va vt vp vk S has X E sk ch w w'

set_option maxRecDepth 100000 in
set_option maxHeartbeats 800000 in
theorem learn_same (AG V FA ST EX n ns me ag : Nat) (va vt vp : Nat → Int) (vk : Nat → Bool) (S : Nat → Lhs) (has : Nat → Bool) (X : Nat → Option Nat) (E : Nat → Lhs) (v t : Int) (w : World) (hag : ag < n)
    (hA : LrnA AG V FA ST EX n ns me w) (hV : Cells w V (n * 4) (vwOf va vt vp vk)) (hST : Cells w ST (ns * 2) (stOf S has)) (hEX : Cells w EX n (exOf X)) (hs : skipB ag me t (vt ag) (vk ag) = false) (hk : vk ag = true) (hv : va ag = v) (hVS : ¬ V = ST) (hVE : ¬ V = EX) :
    Calls Yba.prog 11 #[.pointer (some ⟨AG, 0, none⟩), .agg #[.int .i64 ag, .int .i64 v, .int .i64 t]] w fun e w' => LrnPost V ST EX n ns ag v t va vt vp vk S has X E false false w e w' := by
  have aid := hA.aid
  have a10 := hA.a10
  have v0 := hV.cell (ag * 4) (by omega)
  have v1 := hV.cell (ag * 4 + 1) (by omega)
  have v3 := hV.cell (ag * 4 + 3) (by omega)
  rw [vwOf0, hv] at v0
  rw [vwOf1] at v1
  rw [vwOf3, hk] at v3
  have hAG : AG < w.heap.size := World.block_lt_of_cell? _ _ aid
  have hVl : V < w.heap.size := hV.lt
  go_enter Yba.func11, Yba.ntmps11
  go_upto_region 1 with fail
  go_quiet (fail)
  go_upto_region 2 with fail
  rw [hk] at hs
  generalize vt ag = tg at *
  have hsk : ¬ ag = me ∧ ¬ t < tg ∧ ¬ t = tg := by simpa [skipB, and_assoc] using hs
  obtain ⟨e1, e2, e3⟩ := hsk
  clear hs
  generalize hW : ((w.alloc (Obj.cells #[Value.int IntKind.i64 ag, Value.int IntKind.i64 v, Value.int IntKind.i64 t] 67)).drewN nq) = W
  have hb : Below w.heap.size w W := by rw [← hW]; exact below_drewN' ((Below.refl _ _).alloc (Nat.le_refl _) _) _
  have s0 : W.cell? ⟨w.heap.size, 0, none⟩ = some (.int .i64 ag) := by rw [← hW]; exact World.cell?_alloc_at _ _ _ 0 rfl
  have s1 : W.cell? ⟨w.heap.size, 1, none⟩ = some (.int .i64 v) := by rw [← hW]; exact World.cell?_alloc_at _ _ _ 1 rfl
  have s2 : W.cell? ⟨w.heap.size, 2, none⟩ = some (.int .i64 t) := by rw [← hW]; exact World.cell?_alloc_at _ _ _ 2 rfl
  have aid' := cell_later hb aid
  have v0' := cell_later hb v0
  have v1' := cell_later hb v1
  have v3' := cell_later hb v3
  have hVW := hV.later hb
  have hSW := hST.later hb
  have hEW := hEX.later hb
  clear hW aid v0 v1 v3 a10 hA hV hST hEX
  have g1 : ((ag : Int) == (me : Int)) = false := by simp; omega
  have g2 : decide (t < tg) = false := by simp; omega
  have g3 : (t == tg) = false := by simp; omega
  go_quiet (fail)
  obtain ⟨nq1, rfl⟩ : ∃ q, q = nq := ⟨nq, rfl⟩
  go_upto_region 3 with fail
  go_quiet (fail)
  go_upto_region 4 with fail
  have hVW2 : Cells ((W.drewN nq1).drewN nq) V (n * 4) (vwOf va vt vp vk) := (hVW.drewN _).drewN _
  have hSW2 : Cells ((W.drewN nq1).drewN nq) ST (ns * 2) (stOf S has) := (hSW.drewN _).drewN _
  have hEW2 : Cells ((W.drewN nq1).drewN nq) EX n (exOf X) := (hEW.drewN _).drewN _
  have hK : Keeps (fun b => b = V ∨ b = ST ∨ b = EX) w ((W.drewN nq1).drewN nq) := ((Keeps.of_below hb).drewN _).drewN _
  have s1' : ((W.drewN nq1).drewN nq).cell? ⟨w.heap.size, 1, none⟩ = some (.int .i64 v) := s1
  have s2' : ((W.drewN nq1).drewN nq).cell? ⟨w.heap.size, 2, none⟩ = some (.int .i64 t) := s2
  clear hVW hSW hEW hb s0 s1 s2 aid' v0' v1' v3' g1 g2 g3
  generalize ((W.drewN nq1).drewN nq) = W2 at *
  have v0 := hVW2.cell (ag * 4) (by omega)
  have v1 := hVW2.cell (ag * 4 + 1) (by omega)
  have v3 := hVW2.cell (ag * 4 + 3) (by omega)
  have r0 := hVW2.free (ag * 4) (by omega)
  have r1 := hVW2.free (ag * 4 + 1) (by omega)
  have r3 := hVW2.free (ag * 4 + 3) (by omega)
  have hNew := vw_new hVW2 hag v t
  have HH : Hid (Cells (((W2.setCell ⟨V, ag * 4, none⟩ (.int .i64 v)).setCell ⟨V, ag * 4 + 1, none⟩ (.int .i64 t)).setCell ⟨V, ag * 4 + 3, none⟩ (.bool true)) V (n * 4) (vwOf (upd va ag v) (upd vt ag t) vp (upd vk ag true)) ∧ Cells W2 ST (ns * 2) (stOf S has) ∧ Cells W2 EX n (exOf X) ∧ Keeps (fun b => b = V ∨ b = ST ∨ b = EX) w W2) := ⟨hNew, hSW2, hEW2, hK⟩
  have hne : ¬ V = w.heap.size := by omega
  have hne' : ¬ w.heap.size = V := by omega
  clear hNew hSW2 hEW2 hK hVW2
  go_region
  go_wp2
  obtain ⟨hNew, hSW2, hEW2, hK⟩ := HH.out
  refine bodyPost_ret (results_none rfl _ _ _) rfl ⟨⟨_, rfl⟩, ⟨?_, ?_, ?_, ?_⟩⟩
  · simpa using hNew.drew
  · simpa using (((hSW2.other (Ne.symm hVS) _).other (Ne.symm hVS) _).other (Ne.symm hVS) _).drew
  · simpa using (((hEW2.other (Ne.symm hVE) _).other (Ne.symm hVE) _).other (Ne.symm hVE) _).drew
  · exact (((hK.setCell (Or.inl rfl) _).setCell (Or.inl rfl) _).setCell (Or.inl rfl) _).drew

theorem keeps_one (W : World) (V a : Nat) (x : Value) : Keeps (fun q => q = V) W (W.setCell ⟨V, a, none⟩ x) := (Keeps.refl (fun q => q = V) W).setCell (p := ⟨V, a, none⟩) (show V = V from rfl) x
theorem keeps_four (W : World) (V a b c d : Nat) (x y z u : Value) : Keeps (fun q => q = V) W ((((W.setCell ⟨V, a, none⟩ x).setCell ⟨V, b, none⟩ y).setCell ⟨V, c, none⟩ z).setCell ⟨V, d, none⟩ u).drew :=
  ((((keeps_one W V a x).trans (keeps_one _ V b y)).trans (keeps_one _ V c z)).trans (keeps_one _ V d u)).drew

theorem hasTo_step (S : Nat → Lhs) (has : Nat → Bool) (ag v : Int) (k i : Nat) : hasTo S has ag v (k + 1) i = upd (hasTo S has ag v k) k (has k && !(S k).dis ag v) i := by
  unfold hasTo upd
  by_cases e : i = k
  · subst e; simp
  · have e2 : (i < k + 1) ↔ (i < k) := by omega
    simp [e, e2]
theorem hasTo_at (S : Nat → Lhs) (has : Nat → Bool) (ag v : Int) (k : Nat) : hasTo S has ag v k k = has k := by simp [hasTo]
theorem exTo_step (X : Nat → Option Nat) (E : Nat → Lhs) (ag v : Int) (k i : Nat) : exTo X E ag v (k + 1) i = upd (exTo X E ag v k) k (if (E k).dis ag v = true then none else X k) i := by
  unfold exTo upd
  by_cases e : i = k
  · subst e; simp
  · have e2 : (i < k + 1) ↔ (i < k) := by omega
    simp [e, e2]
theorem exTo_at (X : Nat → Option Nat) (E : Nat → Lhs) (ag v : Int) (k : Nat) : exTo X E ag v k k = X k := by simp [exTo]
theorem upd_same {α : Type} (f : Nat → α) (k : Nat) : upd f k (f k) = f := by
  funext i
  unfold upd
  by_cases e : i = k
  · simp [e]
  · simp [e]

set_option maxRecDepth 100000 in
set_option maxHeartbeats 1600000 in
theorem learn_new (AG V FA ST EX n ns me ag lo : Nat) (va vt vp : Nat → Int) (vk : Nat → Bool) (S : Nat → Lhs) (has : Nat → Bool) (X : Nat → Option Nat) (E : Nat → Lhs) (v t : Int) (w : World) (hag : ag < n) (hn : n ≤ 1024) (hns : ns ≤ 1024)
    (hA : LrnA AG V FA ST EX n ns me w) (hV : Cells w V (n * 4) (vwOf va vt vp vk)) (hST : Cells w ST (ns * 2) (stOf S has)) (hEX : Cells w EX n (exOf X)) (hs : skipB ag me t (vt ag) (vk ag) = false) (hch : vk ag = false ∨ ¬ va ag = v) (hVS : ¬ V = ST) (hVE : ¬ V = EX) (hSE : ¬ ST = EX)
    (hVA : ¬ V = AG) (hVF : ¬ V = FA) (hSA : ¬ ST = AG) (hEA : ¬ EX = AG) (hlV : V < lo) (hlS : ST < lo) (hlE : EX < lo) (hlw : lo ≤ w.heap.size) (hS : ∀ i, i < ns → LhsOk lo w (S i)) (hE : ∀ j, j < n → ExOk lo w (X j) (E j)) :
    Calls Yba.prog 11 #[.pointer (some ⟨AG, 0, none⟩), .agg #[.int .i64 ag, .int .i64 v, .int .i64 t]] w fun e w' => LrnPost V ST EX n ns ag v t va vt vp vk S has X E false true w e w' := by
  have aid := hA.aid
  have a10 := hA.a10
  have v0 := hV.cell (ag * 4) (by omega)
  have v1 := hV.cell (ag * 4 + 1) (by omega)
  have v3 := hV.cell (ag * 4 + 3) (by omega)
  rw [vwOf0] at v0
  rw [vwOf1] at v1
  rw [vwOf3] at v3
  have hAG : AG < w.heap.size := World.block_lt_of_cell? _ _ aid
  have hVl : V < w.heap.size := hV.lt
  go_enter Yba.func11, Yba.ntmps11
  go_upto_region 1 with fail
  go_quiet (fail)
  go_upto_region 2 with fail
  generalize vt ag = tg at *
  generalize vk ag = kn at *
  have hsk : ¬ ag = me ∧ ¬ t < tg ∧ (t = tg → kn = false) := by simpa [skipB, and_assoc] using hs
  obtain ⟨e1, e2, e3⟩ := hsk
  clear hs
  have HS : Hid (∀ i, i < ns → LhsOk lo w (S i)) := hS
  have HE : Hid (∀ j, j < n → ExOk lo w (X j) (E j)) := hE
  have HA : Hid (LrnA AG V FA ST EX n ns me w) := hA
  clear hS hE hA
  generalize hW : ((w.alloc (Obj.cells #[Value.int IntKind.i64 ag, Value.int IntKind.i64 v, Value.int IntKind.i64 t] 67)).drewN nq) = W
  have hb : Below w.heap.size w W := by rw [← hW]; exact below_drewN' ((Below.refl _ _).alloc (Nat.le_refl _) _) _
  have s0 : W.cell? ⟨w.heap.size, 0, none⟩ = some (.int .i64 ag) := by rw [← hW]; exact World.cell?_alloc_at _ _ _ 0 rfl
  have s1 : W.cell? ⟨w.heap.size, 1, none⟩ = some (.int .i64 v) := by rw [← hW]; exact World.cell?_alloc_at _ _ _ 1 rfl
  have s2 : W.cell? ⟨w.heap.size, 2, none⟩ = some (.int .i64 t) := by rw [← hW]; exact World.cell?_alloc_at _ _ _ 2 rfl
  have hszW : w.heap.size < W.heap.size := World.block_lt_of_cell? _ _ s0
  have aid' := cell_later hb aid
  have v0' := cell_later hb v0
  have v1' := cell_later hb v1
  have v3' := cell_later hb v3
  have hVW := hV.later hb
  have hSW := hST.later hb
  have hEW := hEX.later hb
  clear hW aid v0 v1 v3 a10 hV hST hEX
  have g1 : ((ag : Int) == (me : Int)) = false := by simp; omega
  have g2 : decide (t < tg) = false := by simp; omega
  go_cut [50] (fun s50 wx => s50 = .bool false ∧ ∃ q, wx = W.drewN q)
  case first =>
    by_cases e4 : t = tg
    · obtain rfl := e3 e4
      subst e4
      have g3 : (t == t) = true := by simp
      go_quiet (fail)
      go_wp2_with fail
      go_meet
      exact ⟨rfl, _, rfl⟩
    · have g3 : (t == tg) = false := by simp; omega
      go_quiet (fail)
      go_wp2_with fail
      go_meet
      exact ⟨rfl, _, rfl⟩
  case rest =>
  obtain ⟨rfl, q1, rfl⟩ := hcut
  go_upto_region 3 with fail
  go_cut [5] (fun s5 wx => s5 = .bool true ∧ ∃ q, wx = W.drewN q)
  case first =>
    cases kn with
    | false =>
      go_quiet (fail)
      go_wp2_with fail
      go_meet
      exact ⟨rfl, _, rfl⟩
    | true =>
      have hne0 : ¬ va ag = v := by simpa using hch
      go_quiet (fail)
      go_wp2_with fail
      go_meet
      exact ⟨by simp [hne0], _, rfl⟩
  case rest =>
  obtain ⟨rfl, q2, rfl⟩ := hcut
  have hVW2 : Cells (W.drewN q2) V (n * 4) (vwOf va vt vp vk) := hVW.drewN _
  have hSW2 : Cells (W.drewN q2) ST (ns * 2) (stOf S has) := hSW.drewN _
  have hEW2 : Cells (W.drewN q2) EX n (exOf X) := hEW.drewN _
  have hK : Keeps (fun b => b = V ∨ b = ST ∨ b = EX) w (W.drewN q2) := (Keeps.of_below hb).drewN _
  have hK0 : Keeps (fun _ => False) w (W.drewN q2) := (Keeps.of_below hb).drewN _
  have s0' : (W.drewN q2).cell? ⟨w.heap.size, 0, none⟩ = some (.int .i64 ag) := s0
  have s1' : (W.drewN q2).cell? ⟨w.heap.size, 1, none⟩ = some (.int .i64 v) := s1
  have s2' : (W.drewN q2).cell? ⟨w.heap.size, 2, none⟩ = some (.int .i64 t) := s2
  have hA2 := HA.out.keeps hK0 (fun x => x) (fun x => x)
  clear hVW hSW hEW hb s0 s1 s2 aid' v0' v1' v3' g1 g2 hK0
  generalize (W.drewN q2) = W2 at *
  have v0 := hVW2.cell (ag * 4) (by omega)
  have v1 := hVW2.cell (ag * 4 + 1) (by omega)
  have v2 := hVW2.cell (ag * 4 + 2) (by omega)
  have v3 := hVW2.cell (ag * 4 + 3) (by omega)
  have r0 := hVW2.free (ag * 4) (by omega)
  have r1 := hVW2.free (ag * 4 + 1) (by omega)
  have r2 := hVW2.free (ag * 4 + 2) (by omega)
  have r3 := hVW2.free (ag * 4 + 3) (by omega)
  have hFAl : FA < w.heap.size := HA.out.fa.lt
  have hNew := (vw_pos (vw_new hVW2 hag v t) hag (-1)).drew
  have hne : ¬ V = w.heap.size := by omega
  have hne' : ¬ w.heap.size = V := by omega
  have hAV : ¬ AG = V := fun h => hVA h.symm
  have hFV : ¬ FA = V := fun h => hVF h.symm
  have K23 : Keeps (fun b => b = V) W2 ((((W2.setCell ⟨V, ag * 4, none⟩ (.int .i64 v)).setCell ⟨V, ag * 4 + 1, none⟩ (.int .i64 t)).setCell ⟨V, ag * 4 + 3, none⟩ (.bool true)).setCell ⟨V, ag * 4 + 2, none⟩ (.int .i64 (-1))).drew := keeps_four W2 V _ _ _ _ _ _ _ _
  have HH : Hid (Cells ((((W2.setCell ⟨V, ag * 4, none⟩ (.int .i64 v)).setCell ⟨V, ag * 4 + 1, none⟩ (.int .i64 t)).setCell ⟨V, ag * 4 + 3, none⟩ (.bool true)).setCell ⟨V, ag * 4 + 2, none⟩ (.int .i64 (-1))).drew V (n * 4) (vwOf (upd va ag v) (upd vt ag t) (upd vp ag (-1)) (upd vk ag true)) ∧ Cells W2 ST (ns * 2) (stOf S has) ∧ Cells W2 EX n (exOf X) ∧ Keeps (fun b => b = V ∨ b = ST ∨ b = EX) w W2 ∧ Keeps (fun b => b = V) W2 ((((W2.setCell ⟨V, ag * 4, none⟩ (.int .i64 v)).setCell ⟨V, ag * 4 + 1, none⟩ (.int .i64 t)).setCell ⟨V, ag * 4 + 3, none⟩ (.bool true)).setCell ⟨V, ag * 4 + 2, none⟩ (.int .i64 (-1))).drew ∧ LrnA AG V FA ST EX n ns me W2) := ⟨hNew, hSW2, hEW2, hK, K23, hA2⟩
  clear hNew hSW2 hEW2 hK hVW2 K23 hA2
  go_upto_region 4 with fail
  go_region
  go_upto_region 7 with fail
  generalize ((((W2.setCell ⟨V, ag * 4, none⟩ (.int .i64 v)).setCell ⟨V, ag * 4 + 1, none⟩ (.int .i64 t)).setCell ⟨V, ag * 4 + 3, none⟩ (.bool true)).setCell ⟨V, ag * 4 + 2, none⟩ (.int .i64 (-1))).drew = W3 at *
  obtain ⟨hV3, hSW2, hEW2, hK, K23, hA2⟩ := HH.out
  have hS3 := K23.cells (fun h => hVS h.symm) hSW2
  have hE3 := K23.cells (fun h => hVE h.symm) hEW2
  have hA3 := hA2.keeps K23 hAV hFV
  have t0 := K23.cell (p := ⟨w.heap.size, 0, none⟩) hne' s0'
  have t1 := K23.cell (p := ⟨w.heap.size, 1, none⟩) hne' s1'
  have hK3 : Keeps (fun b => b = V ∨ b = ST ∨ b = EX) w W3 := hK.trans (K23.weak (fun _ h => Or.inl h))
  have hlo : ∀ b, lo ≤ b → ¬ (b = V ∨ b = ST ∨ b = EX) := fun b hb h => by omega
  have hL3 : ∀ i, i < ns → LhsOk lo W3 (S i) := fun i hi => (HS.out i hi).keeps hK3 hlo
  have hX3 : ∀ j, j < n → ExOk lo W3 (X j) (E j) := fun j hj => (HE.out j hj).keeps hK3 hlo
  have a4 := hA3.a4
  have fa := hA3.fa.cell ag hag
  clear HH hSW2 hEW2 hK K23 hA2 HS HE HA v0 v1 v2 v3 r0 r1 r2 r3 s0' s1' s2' hszW e3 hch
  go_quiet (fail)
  have hV4 := hV3.drewN nq
  have hS4 := hS3.drewN nq
  have hE4 := hE3.drewN nq
  have hK4 := hK3.drewN nq
  have hK34 : Keeps (fun _ => False) W3 (W3.drewN nq) := (Keeps.refl _ _).drewN nq
  have hA4 := hA3.keeps hK34 (fun x => x) (fun x => x)
  have hL4 : ∀ i, i < ns → LhsOk lo (W3.drewN nq) (S i) := fun i hi => (hL3 i hi).keeps hK34 (fun _ _ h => h)
  have hX4 : ∀ j, j < n → ExOk lo (W3.drewN nq) (X j) (E j) := fun j hj => (hX3 j hj).keeps hK34 (fun _ _ h => h)
  have u0 : (W3.drewN nq).cell? ⟨w.heap.size, 0, none⟩ = some (.int .i64 ag) := t0
  have u1 : (W3.drewN nq).cell? ⟨w.heap.size, 1, none⟩ = some (.int .i64 v) := t1
  clear hV3 hS3 hE3 hK3 hA3 hL3 hX3 t0 t1 hK34 a4 fa
  generalize W3.drewN nq = W4 at *
  have a11 := hA4.a11
  go_wp2_with fail
  have hSne : ¬ w.heap.size = ST := by omega
  have hAS : ¬ AG = ST := fun h => hSA h.symm
  have h0e : hasTo S has ag v 0 = has := by funext i; simp [hasTo]
  go_loopw [117] (fun x wr => ∃ k : Nat, k ≤ ns ∧ x = .int .i64 k ∧ Cells wr ST (ns * 2) (stOf S (hasTo S has ag v k)) ∧ Keeps (fun b => b = ST) W4 wr) (fun x _ => ns - (intOf x).toNat)
  case atStart => exact ⟨0, Nat.zero_le _, rfl, by rw [h0e]; exact hS4, Keeps.refl _ _⟩
  case round =>
    obtain ⟨k, hk, rfl, hC, hKr⟩ := hrel
    by_cases hlt : k < ns
    · have c0 := hC.cell (k * 2) (by omega)
      have c1 := hC.cell (k * 2 + 1) (by omega)
      have f1 := hC.free (k * 2 + 1) (by omega)
      rw [stOf0] at c0
      rw [stOf1, hasTo_at] at c1
      have a11r := hKr.cell (p := ⟨AG, 11, none⟩) hAS a11
      have u0r := hKr.cell (p := ⟨w.heap.size, 0, none⟩) hSne u0
      have u1r := hKr.cell (p := ⟨w.heap.size, 1, none⟩) hSne u1
      have hLr := (hL4 k hlt).keeps hKr (fun b hb h => by omega)
      have hstep := hasTo_step S has ag v k
      have Hstep : Hid (stOf S (hasTo S has ag v (k + 1)) = stOf S (upd (hasTo S has ag v k) k (has k && !(S k).dis ag v))) := congrArg (stOf S) (funext hstep)
      have Hat : Hid (hasTo S has ag v k k = has k) := hasTo_at S has ag v k
      have HC : Hid (Cells wr ST (ns * 2) (stOf S (hasTo S has ag v k)) ∧ Keeps (fun b => b = ST) W4 wr) := ⟨hC, hKr⟩
      clear hstep hC hKr hV4 hS4 hE4 hK4 hA4 hL4 hX4 a11 u0 u1 h0e
      cases hh : has k with
      | false =>
        rw [hh] at c1 Hstep Hat
        go_wp2
        go_roundw
        case rel =>
          refine ⟨k + 1, by omega, by go_num, ?_, HC.out.2⟩
          rw [Hstep.out, Bool.false_and, ← Hat.out, upd_same]
          exact HC.out.1
        case measure => simp [intOf]; omega
      | true =>
        rw [hh] at c1 Hstep Hat
        go_wp2_with fail
        refine (disg_any lo w.heap.size (S k) ag v wr hLr u0r u1r).mono ?_
        rintro e w5 ⟨rfl, hb5⟩
        have c1' := cell_later hb5 c1
        have a11' := cell_later hb5 a11r
        have f1' : w5.frozen? ⟨ST, k * 2 + 1, none⟩ = false := (hb5.frozen (p := ⟨ST, k * 2 + 1, none⟩) (World.block_lt_of_cell? _ _ c1)).trans f1
        have HC5 : Hid (Cells w5 ST (ns * 2) (stOf S (hasTo S has ag v k)) ∧ Keeps (fun b => b = ST) W4 w5) := ⟨HC.out.1.later hb5, HC.out.2.trans (Keeps.of_below hb5)⟩
        cases hd : (S k).dis ag v with
        | true =>
          rw [hd] at Hstep
          go_wp2
          go_roundw
          case rel =>
            refine ⟨k + 1, by omega, by go_num, ?_, HC5.out.2.trans (keeps_one _ ST _ _)⟩
            rw [Hstep.out]
            exact st_set HC5.out.1 hlt false
          case measure => simp [intOf]; omega
        | false =>
          rw [hd] at Hstep
          go_wp2
          go_roundw
          case rel =>
            refine ⟨k + 1, by omega, by go_num, ?_, HC5.out.2⟩
            rw [Hstep.out, Bool.not_false, Bool.true_and, ← Hat.out, upd_same]
            exact HC5.out.1
          case measure => simp [intOf]; omega
    · obtain rfl : ns = k := by omega
      obtain ⟨W5, rfl⟩ : ∃ W5, W5 = wr := ⟨wr, rfl⟩
      have a14 := hKr.cell (p := ⟨AG, 14, none⟩) hAS hA4.a14
      have hEne : ¬ w.heap.size = EX := by omega
      have hAE : ¬ AG = EX := fun h => hEA h.symm
      have hES : ¬ EX = ST := fun h => hSE h.symm
      have u0r := hKr.cell (p := ⟨w.heap.size, 0, none⟩) hSne u0
      have u1r := hKr.cell (p := ⟨w.heap.size, 1, none⟩) hSne u1
      have hE5 := hKr.cells hES hE4
      have hV5 := hKr.cells hVS hV4
      have hX5 : ∀ j, j < n → ExOk lo W5 (X j) (E j) := fun j hj => (hX4 j hj).keeps hKr (fun b hb h => by omega)
      have hK5 : Keeps (fun b => b = V ∨ b = ST ∨ b = EX) w W5 := hK4.trans (hKr.weak (fun _ h => Or.inr (Or.inl h)))
      have HT : Hid (Cells W5 V (n * 4) (vwOf (upd va ag v) (upd vt ag t) (upd vp ag (-1)) (upd vk ag true)) ∧ Cells W5 ST (ns * 2) (stOf S (hasTo S has ag v ns)) ∧ Keeps (fun b => b = V ∨ b = ST ∨ b = EX) w W5) := ⟨hV5, hC, hK5⟩
      have h0x : exTo X E ag v 0 = X := by funext i; simp [exTo]
      clear hC hKr hV4 hS4 hE4 hK4 hA4 hL4 hX4 a11 u0 u1 h0e hV5 hK5
      go_wp2_with fail
      go_loopw [153] (fun x wr => ∃ k : Nat, k ≤ n ∧ x = .int .i64 k ∧ Cells wr EX n (exOf (exTo X E ag v k)) ∧ Keeps (fun b => b = EX) W5 wr) (fun x _ => n - (intOf x).toNat)
      case atStart => exact ⟨0, Nat.zero_le _, rfl, by rw [h0x]; exact hE5, Keeps.refl _ _⟩
      case round =>
        obtain ⟨k, hk, rfl, hC, hKr⟩ := hrel
        by_cases hlt : k < n
        · have c0 := hC.cell k hlt
          have f0 := hC.free k hlt
          simp only [exOf, exTo_at] at c0
          have a14r := hKr.cell (p := ⟨AG, 14, none⟩) hAE a14
          have w0r := hKr.cell (p := ⟨w.heap.size, 0, none⟩) hEne u0r
          have w1r := hKr.cell (p := ⟨w.heap.size, 1, none⟩) hEne u1r
          have hXr := (hX5 k hlt).keeps hKr (fun b hb h => by omega)
          have Hstep : Hid (exOf (exTo X E ag v (k + 1)) = exOf (upd (exTo X E ag v k) k (if (E k).dis ag v = true then none else X k))) := congrArg exOf (funext (exTo_step X E ag v k))
          have Hat : Hid (exTo X E ag v k k = X k) := exTo_at X E ag v k
          have HC : Hid (Cells wr EX n (exOf (exTo X E ag v k)) ∧ Keeps (fun b => b = EX) W5 wr) := ⟨hC, hKr⟩
          clear hC hKr hE5 hX5 a14 u0r u1r h0x
          cases hx : X k with
          | none =>
            rw [hx] at c0 Hstep Hat
            simp only [ptr, Option.map_none] at c0
            go_wp2
            go_roundw
            case rel =>
              refine ⟨k + 1, by omega, by go_num, ?_, HC.out.2⟩
              rw [Hstep.out, ite_self, ← Hat.out, upd_same]
              exact HC.out.1
            case measure => simp [intOf]; omega
          | some b =>
            obtain ⟨hbl, hbc, hbL⟩ := hXr.ok b hx
            rw [hx] at c0 Hstep Hat
            simp only [ptr, Option.map_some] at c0
            go_wp2_with fail
            refine (disg_any lo w.heap.size (E k) ag v wr hbL w0r w1r).mono ?_
            rintro e w6 ⟨rfl, hb6⟩
            have c0' := cell_later hb6 c0
            have a14' := cell_later hb6 a14r
            have f0' : w6.frozen? ⟨EX, k, none⟩ = false := (hb6.frozen (p := ⟨EX, k, none⟩) (World.block_lt_of_cell? _ _ c0)).trans f0
            have HC6 : Hid (Cells w6 EX n (exOf (exTo X E ag v k)) ∧ Keeps (fun b => b = EX) W5 w6) := ⟨HC.out.1.later hb6, HC.out.2.trans (Keeps.of_below hb6)⟩
            cases hd : (E k).dis ag v with
            | true =>
              rw [hd] at Hstep
              go_wp2
              go_roundw
              case rel =>
                refine ⟨k + 1, by omega, by go_num, ?_, HC6.out.2.trans (keeps_one _ EX _ _)⟩
                rw [Hstep.out]
                exact ex_set HC6.out.1 hlt none
              case measure => simp [intOf]; omega
            | false =>
              rw [hd] at Hstep
              go_wp2
              go_roundw
              case rel =>
                refine ⟨k + 1, by omega, by go_num, ?_, HC6.out.2⟩
                rw [Hstep.out, if_neg (by simp), ← Hat.out, upd_same]
                exact HC6.out.1
              case measure => simp [intOf]; omega
        · obtain rfl : n = k := by omega
          go_wp2
          obtain ⟨hV5, hS5, hK5⟩ := HT.out
          refine bodyPost_ret (results_none rfl _ _ _) rfl ⟨⟨_, rfl⟩, ⟨?_, ?_, ?_, ?_⟩⟩
          · simpa using hKr.cells hVE hV5
          · simpa using hKr.cells hSE hS5
          · simpa using hC
          · exact hK5.trans (hKr.weak (fun _ h => Or.inr (Or.inr h)))
end Go.Proofs.Ybulkclmc
