import Derived.Test.YbulkclmcLrn2
namespace Go.Proofs.Ybulkclmc
open Go.RowKit

/-- the agent that the law makes, as learn reads it -/
structure LrnA (AG V FA ST EX n ns me : Nat) (w : World) : Prop where
  aid : w.cell? ⟨AG, 0, none⟩ = some (.int .i64 me)
  a4 : w.cell? ⟨AG, 4, none⟩ = some (.slice (some ⟨FA, 0, none⟩) n n)
  a10 : w.cell? ⟨AG, 10, none⟩ = some (.slice (some ⟨V, 0, none⟩) n n)
  a11 : w.cell? ⟨AG, 11, none⟩ = some (.slice (some ⟨ST, 0, none⟩) ns ns)
  a14 : w.cell? ⟨AG, 14, none⟩ = some (.slice (some ⟨EX, 0, none⟩) n n)
  fa : Cells w FA n (fun _ => .int .i32 (-1))

theorem LrnA.keeps {AG V FA ST EX n ns me : Nat} {S : Nat → Prop} {w w' : World} (h : LrnA AG V FA ST EX n ns me w) (k : Keeps S w w') (h1 : ¬ S AG) (h2 : ¬ S FA) : LrnA AG V FA ST EX n ns me w' :=
  ⟨k.cell h1 h.aid, k.cell h1 h.a4, k.cell h1 h.a10, k.cell h1 h.a11, k.cell h1 h.a14, k.cells h2 h.fa⟩

/-- a view by its four rows -/
def vwOf (va vt vp : Nat → Int) (vk : Nat → Bool) (i : Nat) : Value :=
  if i % 4 = 0 then .int .i64 (va (i / 4)) else if i % 4 = 1 then .int .i64 (vt (i / 4)) else if i % 4 = 2 then .int .i64 (vp (i / 4)) else .bool (vk (i / 4))

theorem vwOf0 (va vt vp : Nat → Int) (vk : Nat → Bool) (k : Nat) : vwOf va vt vp vk (k * 4) = .int .i64 (va k) := by
  simp [vwOf, show k * 4 / 4 = k from by omega]
theorem vwOf1 (va vt vp : Nat → Int) (vk : Nat → Bool) (k : Nat) : vwOf va vt vp vk (k * 4 + 1) = .int .i64 (vt k) := by
  simp [vwOf, show (k * 4 + 1) / 4 = k from by omega, show (k * 4 + 1) % 4 = 1 from by omega]
theorem vwOf2 (va vt vp : Nat → Int) (vk : Nat → Bool) (k : Nat) : vwOf va vt vp vk (k * 4 + 2) = .int .i64 (vp k) := by
  simp [vwOf, show (k * 4 + 2) / 4 = k from by omega, show (k * 4 + 2) % 4 = 2 from by omega]
theorem vwOf3 (va vt vp : Nat → Int) (vk : Nat → Bool) (k : Nat) : vwOf va vt vp vk (k * 4 + 3) = .bool (vk k) := by
  simp [vwOf, show (k * 4 + 3) / 4 = k from by omega, show (k * 4 + 3) % 4 = 3 from by omega]

def skipB (ag me : Nat) (t tg : Int) (kn : Bool) : Bool := decide (ag = me) || decide (t < tg) || (decide (t = tg) && kn)

theorem below_drewN' {B : Nat} {a w : World} (h : Below B a w) (q : Nat) : Below B a (w.drewN q) := ⟨h.os, h.tape, h.output, h.size, h.block⟩

/-- what learn leaves where it does nothing -/
def LrnNone (w : World) (e : Ending) (w' : World) : Prop := (∃ x, e = .returned x) ∧ Below w.heap.size w w'

set_option maxRecDepth 100000 in
set_option maxHeartbeats 800000 in
theorem learn_skip (AG V FA ST EX n ns me ag : Nat) (va vt vp : Nat → Int) (vk : Nat → Bool) (v t : Int) (w : World) (hag : ag < n)
    (hA : LrnA AG V FA ST EX n ns me w) (hV : Cells w V (n * 4) (vwOf va vt vp vk)) (hs : skipB ag me t (vt ag) (vk ag) = true) :
    Calls Yba.prog 11 #[.pointer (some ⟨AG, 0, none⟩), .agg #[.int .i64 ag, .int .i64 v, .int .i64 t]] w fun e w' => LrnNone w e w' := by
  have aid := hA.aid
  have a10 := hA.a10
  have v1 := hV.cell (ag * 4 + 1) (by omega)
  have v3 := hV.cell (ag * 4 + 3) (by omega)
  rw [vwOf1] at v1
  rw [vwOf3] at v3
  have hAG : AG < w.heap.size := World.block_lt_of_cell? _ _ aid
  have hVl : V < w.heap.size := hV.lt
  go_enter Yba.func11, Yba.ntmps11
  go_upto_region 1 with fail
  go_quiet (fail)
  go_upto_region 2 with fail
  generalize vt ag = tg at *
  generalize vk ag = kn at *
  clear hA hV
  generalize hW : ((w.alloc (Obj.cells #[Value.int IntKind.i64 ag, Value.int IntKind.i64 v, Value.int IntKind.i64 t] 67)).drewN nq) = W
  have hb : Below w.heap.size w W := by rw [← hW]; exact below_drewN' ((Below.refl _ _).alloc (Nat.le_refl _) _) _
  have s0 : W.cell? ⟨w.heap.size, 0, none⟩ = some (.int .i64 ag) := by rw [← hW]; exact World.cell?_alloc_at _ _ _ 0 rfl
  have s2 : W.cell? ⟨w.heap.size, 2, none⟩ = some (.int .i64 t) := by rw [← hW]; exact World.cell?_alloc_at _ _ _ 2 rfl
  have aid' := cell_later hb aid
  have v1' := cell_later hb v1
  have v3' := cell_later hb v3
  clear hW aid v1 v3 a10
  by_cases e1 : ag = me
  · have g1 : ((ag : Int) = (me : Int)) := by omega
    go_quiet (fail)
    go_wp2
    exact bodyPost_ret (results_none rfl _ _ _) rfl ⟨⟨_, rfl⟩, below_drewN' hb _⟩
  · have g1 : decide ((ag : Int) = (me : Int)) = false := by simp; omega
    have g1' : ((ag : Int) == (me : Int)) = false := by simp; omega
    by_cases e2 : t < tg
    · go_quiet (fail)
      go_wp2
      exact bodyPost_ret (results_none rfl _ _ _) rfl ⟨⟨_, rfl⟩, below_drewN' hb _⟩
    · have g2 : decide (t < tg) = false := by simp; omega
      have e3 : t = tg ∧ kn = true := by simpa [skipB, e1, e2] using hs
      obtain ⟨rfl, rfl⟩ := e3
      have g3 : (t == t) = true := by simp
      go_quiet (fail)
      go_wp2
      exact bodyPost_ret (results_none rfl _ _ _) rfl ⟨⟨_, rfl⟩, below_drewN' hb _⟩
end Go.Proofs.Ybulkclmc
