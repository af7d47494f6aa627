import Derived.Test.YbulkclmcBokU
namespace Go.Proofs.Ybulkclmc
open Go.RowKit

def sizeTo (has pr : Nat → Bool) : Nat → Nat
  | 0 => 0
  | i + 1 => sizeTo has pr i + if !has i && !pr i then 1 else 0
theorem sizeTo_le (has pr : Nat → Bool) : ∀ i, sizeTo has pr i ≤ i
  | 0 => Nat.le_refl _
  | i + 1 => by
    have := sizeTo_le has pr i
    simp only [sizeTo]
    split <;> omega

/-- the agent, as ok reads it -/
structure OkI2 (AG ST JA O P DB PB na m c : Nat) (rk : Nat → Nat) (has pr : Nat → Bool) (LP : Nat → Option Addr) (LN LC : Nat → Nat) (f : Nat → Nat → As) (v tag : Int) (w : World) : Prop where
  un : UnIn AG ST JA O P na m rk has LP LN LC f w
  a2 : w.cell? ⟨AG, 2, none⟩ = some (.slice (some ⟨DB, 0, none⟩) m m)
  a8 : w.cell? ⟨AG, 8, none⟩ = some (.int .i64 c)
  a9 : w.cell? ⟨AG, 9, none⟩ = some (.int .i64 tag)
  a12 : w.cell? ⟨AG, 12, none⟩ = some (.slice (some ⟨PB, 0, none⟩) m m)
  a15 : w.cell? ⟨AG, 15, none⟩ = some (.slice none 0 0)
  d : w.cell? ⟨DB, c, none⟩ = some (.int .i64 v)
  p : ∀ i, i < m → w.cell? ⟨PB, i, none⟩ = some (.bool (pr i))
  nD : ¬ DB = JA
  nP : ¬ PB = JA

/-- w' is w but for joinAt, which is all zero -/
structure Good (JA na : Nat) (w w' : World) : Prop where
  kp : Keeps (fun b => b = JA) w w'
  z : Cells w' JA na (atC (fun _ => 0))

theorem Good.later {JA na : Nat} {w X w' : World} (h : Good JA na w X) (hb : Below X.heap.size X w') : Good JA na w w' := ⟨h.kp.trans (Keeps.of_below hb), h.z.later hb⟩
theorem good_drew {JA na : Nat} {w X : World} (h : Good JA na w X) : Good JA na w X.drew := h.later (Below.refl _ _).drew
theorem good_drewN {JA na : Nat} {w X : World} (h : Good JA na w X) (q : Nat) : Good JA na w (X.drewN q) := h.later (bl_drewN (Below.refl _ _) q)
theorem good_alloc {JA na : Nat} {w X : World} (h : Good JA na w X) (o : Obj) : Good JA na w (X.alloc o) := h.later (bl_new (Below.refl _ _) o)
theorem good_un {JA na n : Nat} {rk : Nat → Nat} {sv : Value} {g : Nat → As} {O : Nat → Option As} {w X w' : World} (hU : UnOut JA na rk sv g n O X w') (h : Good JA na w X) : Good JA na w w' := ⟨h.kp.trans hU.kp, hU.z⟩

theorem MoreIn.good {JA na mn : Nat} {w w' : World} {mp : Option Addr} {f : Nat → As} (h : MoreIn w.heap.size JA w mp mn f) (hg : Good JA na w w') : MoreIn w'.heap.size JA w' mp mn f :=
  ⟨fun hn => by obtain ⟨M, e, h1, h2, hc⟩ := h.pos hn; exact ⟨M, e, Nat.lt_of_lt_of_le h1 hg.kp.size, h2, fun i hi => hg.kp.cell h2 (hc i hi)⟩⟩

theorem UnIn.good {AG ST JA O P na m : Nat} {rk : Nat → Nat} {has : Nat → Bool} {LP : Nat → Option Addr} {LN LC : Nat → Nat} {f : Nat → Nat → As} {w w' : World} (h : UnIn AG ST JA O P na m rk has LP LN LC f w) (hg : Good JA na w w') : UnIn AG ST JA O P na m rk has LP LN LC f w' :=
  ⟨hg.kp.cell h.nAJ h.a11, hg.kp.cell h.nAJ h.a26, fun i hi => ⟨hg.kp.cell h.nSJ (h.st i hi).1, hg.kp.cell h.nSJ (h.st i hi).2⟩, fun i hi => ⟨(h.more i hi).1.good hg, (h.more i hi).2⟩, hg.z, h.rk.keeps hg.kp h.nAJ h.nOJ h.nPJ, h.nAJ, h.nSJ, h.nOJ, h.nPJ⟩

theorem OkI2.good {AG ST JA O P DB PB na m c : Nat} {rk : Nat → Nat} {has pr : Nat → Bool} {LP : Nat → Option Addr} {LN LC : Nat → Nat} {f : Nat → Nat → As} {v tag : Int} {w w' : World} (h : OkI2 AG ST JA O P DB PB na m c rk has pr LP LN LC f v tag w) (hg : Good JA na w w') : OkI2 AG ST JA O P DB PB na m c rk has pr LP LN LC f v tag w' :=
  ⟨h.un.good hg, hg.kp.cell h.un.nAJ h.a2, hg.kp.cell h.un.nAJ h.a8, hg.kp.cell h.un.nAJ h.a9, hg.kp.cell h.un.nAJ h.a12, hg.kp.cell h.un.nAJ h.a15, hg.kp.cell h.nD h.d, fun i hi => hg.kp.cell h.nP (h.p i hi), h.nD, h.nP⟩

abbrev S8 (AG DB m c O JA na : Nat) (v tag : Int) (W w' : World) : Prop :=
  w'.cell? ⟨AG, 2, none⟩ = some (.slice (some ⟨DB, 0, none⟩) m m) ∧ w'.cell? ⟨AG, 8, none⟩ = some (.int .i64 c) ∧ w'.cell? ⟨AG, 9, none⟩ = some (.int .i64 tag) ∧ w'.cell? ⟨AG, 6, none⟩ = some (.pointer (some ⟨O, 0, none⟩)) ∧ w'.cell? ⟨DB, c, none⟩ = some (.int .i64 v) ∧ Good JA na W w'
theorem s8 {AG ST JA O P DB PB na m c : Nat} {rk : Nat → Nat} {has pr : Nat → Bool} {LP : Nat → Option Addr} {LN LC : Nat → Nat} {f : Nat → Nat → As} {v tag : Int} {w w' : World} (h : OkI2 AG ST JA O P DB PB na m c rk has pr LP LN LC f v tag w) (hg : Good JA na w w') : S8 AG DB m c O JA na v tag w w' :=
  have k := h.good hg
  ⟨k.a2, k.a8, k.a9, k.un.rk.a6, k.d, hg⟩

theorem UnOut.val {JA na n : Nat} {rk : Nat → Nat} {sv : Value} {g : Nat → As} {O : Nat → Option As} {w w' : World} (h : UnOut JA na rk sv g n O w w') : ∃ sp sc, sv = .slice sp n sc := by
  by_cases e : n = 0
  · exact ⟨none, 0, by rw [h.nil e, e]⟩
  · obtain ⟨R, cap, hv, _⟩ := h.pos (by omega)
    exact ⟨_, _, hv⟩

structure OkC2 (R O size : Nat) (v tag : Int) (sv : Value) (w : World) : Prop where
  c0 : w.cell? ⟨R, 0, none⟩ = some (.int .i64 v)
  c1 : w.cell? ⟨R, 1, none⟩ = some (.int .i64 tag)
  c2 : w.cell? ⟨R, 2, none⟩ = some (.int .i64 0)
  c3 : w.cell? ⟨R, 3, none⟩ = some sv
  c4 : w.cell? ⟨R, 4, none⟩ = some (.int .i64 size)
  c5 : w.cell? ⟨R, 5, none⟩ = some (.pointer (some ⟨O, 0, none⟩))

structure OkOut (JA na O size : Nat) (rk : Nat → Nat) (v tag : Int) (B : Nat → Option As) (R : Nat) (sp : Option Addr) (sc : Nat) (g : Nat → As) (n : Nat) (w w' : World) : Prop where
  c : OkC2 R O size v tag (.slice sp n sc) w'
  hR : w.heap.size ≤ R
  nil : n = 0 → sp = none
  pos : 0 < n → ∃ M, sp = some ⟨M, 0, none⟩ ∧ w.heap.size ≤ M ∧ ∀ i, i < n * 3 → w'.cell? ⟨M, i, none⟩ = some (asC g i)
  j : Joined na g n B
  s : SortedTo rk g n
  good : Good JA na w w'

def OkPost2 (JA na O size : Nat) (rk : Nat → Nat) (v tag : Int) (B : Nat → Option As) (w : World) (e : Ending) (w' : World) : Prop :=
  ∃ R sp sc g n, e = .returned (.pointer (some ⟨R, 0, none⟩)) ∧ OkOut JA na O size rk v tag B R sp sc g n w w'

set_option maxRecDepth 100000 in
set_option maxHeartbeats 2000000 in
theorem ok_any (AG ST JA O P DB PB na m c : Nat) (rk : Nat → Nat) (has pr : Nat → Bool) (LP : Nat → Option Addr) (LN LC : Nat → Nat) (f : Nat → Nat → As) (v tag : Int) (w : World) (hI : OkI2 AG ST JA O P DB PB na m c rk has pr LP LN LC f v tag w) (hinj : ∀ a b, a < na → b < na → rk a = rk b → a = b) (hm : m ≤ 301) (hna : na ≤ 6) (hc : c < m) :
    Calls Yba.prog 13 #[.pointer (some ⟨AG, 0, none⟩)] w fun e w' => OkPost2 JA na O (sizeTo has pr m) rk v tag (fun k => bestAll k has LN f m) w e w' := by
  have q37n : ∀ (w : World) (a : Option Addr) (n c : Nat), (binOp .neq 37 (.slice a n c) (.slice none 0 0)).run Yba.prog w = .ok (.bool (!a.isNone)) w := fun w a n c => run_neq_slice_nil_any w 37 3 a n c 0 0 Yba.underlying37
  have HI : Hid (OkI2 AG ST JA O P DB PB na m c rk has pr LP LN LC f v tag w) := hI
  have HN : Hid (∀ a b, a < na → b < na → rk a = rk b → a = b) := hinj
  have a11 := hI.un.a11
  have hAl : AG < w.heap.size := World.block_lt_of_cell? _ _ a11
  clear hI hinj
  go_enter Yba.func13, Yba.ntmps13
  go_wp2_with fail
  go_loopw [3, 12] (fun s3 x wr => ∃ i : Nat, i ≤ m ∧ x = .int .i64 i ∧ s3 = .int .i64 (sizeTo has pr i) ∧ Below w.heap.size w wr) (fun _ x _ => m - (intOf x).toNat)
  case atStart => exact ⟨0, Nat.zero_le _, rfl, rfl, Below.refl _ _⟩
  case round =>
    obtain ⟨i, hi, rfl, rfl, hb⟩ := hrel
    by_cases hlt : i < m
    · obtain ⟨s0, s1⟩ := HI.out.un.st i hlt
      have k0 := cell_later hb s0
      have k1 := cell_later hb s1
      have p1 := cell_later hb (HI.out.p i hlt)
      have a12 := cell_later hb HI.out.a12
      have lA : AG < wr.heap.size := World.block_lt_of_cell? _ _ a12
      have lP : PB < wr.heap.size := World.block_lt_of_cell? _ _ p1
      have e1 : ¬ wr.heap.size = AG := by omega
      have e2 : ¬ wr.heap.size = PB := by omega
      have hl := sizeTo_le has pr i
      have HS : Hid (sizeTo has pr (i + 1) = sizeTo has pr i + if !has i && !pr i then 1 else 0) := rfl
      have i1 : (0 : Int) ≤ (i : Int) := by omega
      have i2 : (i : Int) < (m : Int) := by omega
      clear s0 s1 a11
      generalize has i = hs at *
      generalize pr i = ps at *
      generalize sizeTo has pr i = sz at *
      have hbC : Below w.heap.size w (wr.alloc (.cells #[.slice (LP i) (LN i) (LC i), .bool hs] 60)) := bl_new hb _
      cases hs with
      | true =>
        go_wp2_with fail
        go_roundw
        case rel => exact ⟨i + 1, by omega, by go_num, by rw [HS.out]; rfl, hbC⟩
        case measure => simp [intOf]; omega
      | false =>
        cases ps with
        | true =>
          go_wp2_with fail
          go_roundw
          case rel => exact ⟨i + 1, by omega, by go_num, by rw [HS.out]; rfl, hbC⟩
          case measure => simp [intOf]; omega
        | false =>
          go_wp2_with fail
          go_roundw
          case rel => exact ⟨i + 1, by omega, by go_num, by rw [HS.out]; rfl, hbC⟩
          case measure => simp [intOf]; omega
    · obtain rfl : m = i := by omega
      obtain ⟨W, rfl⟩ : ∃ x, x = wr := ⟨wr, rfl⟩
      have hG : Good JA na w W := ⟨Keeps.of_below hb, HI.out.un.z.later hb⟩
      have hI1 := HI.out.good hG
      have hG1 : Good JA na W W := ⟨Keeps.refl _ _, hG.z⟩
      have hu := hI1.un
      have hn := HN.out
      have hl := sizeTo_le has pr m
      generalize hsz : sizeTo has pr m = sz at *
      have HZ : Hid (sizeTo has pr m = sz) := hsz
      clear hsz
      go_upto_region 8 with fail
      clear a11
      go_cut [6] from 33 to 48 (fun s6 wx => ∃ R sp sc g n, s6 = .pointer (some ⟨R, 0, none⟩) ∧ OkOut JA na O sz rk v tag (fun k => bestAll k has LN f m) R sp sc g n w wx)
      case first =>
        go_region_held3 (fun w' => S8 AG DB m c O JA na v tag W w') ((refine s8 hI1 ?_; repeat (first | refine good_drew ?_ | refine good_drewN ?_ _ | refine good_alloc ?_ _ | refine good_un hU ?_ | exact hG1))) (first | (go_at_call 20; refine (value_any AG DB m m c v _ ?_ ?_ ?_ hc).mono ?_; (simp [*]); (simp [*]); (simp [*]); rintro e wq ⟨rfl, q, rfl⟩) | (go_at_call 21; refine (union_any AG ST JA O P na m rk has LP LN LC f _ (hu.good ?_) hn hm hna).mono ?_; (repeat (first | refine good_drew ?_ | refine good_drewN ?_ _ | exact hG1)); rintro e wu ⟨svu, gu, nu, he, hU⟩; obtain ⟨spu, scu, hsv⟩ := hU.val; (subst hsv); (subst he)))
        obtain ⟨_, _, _, _, _, hGf⟩ : S8 AG DB m c O JA na v tag W _ := by assumption
        go_wp2_with fail
        go_meet
        have z1 : w.heap.size ≤ wu.heap.size := Nat.le_trans hb.size hU.kp.size
        have hbA : Below wu.heap.size wu (wu.alloc (.cells #[.int .i64 v, .int .i64 tag, .int .i64 0, .slice spu nu scu, .int .i64 sz, .pointer (some ⟨O, 0, none⟩)] 79)) := bl_new (Below.refl _ _) _
        refine ⟨wu.heap.size, spu, scu, gu, nu, rfl, ⟨World.cell?_alloc_at _ _ _ 0 rfl, World.cell?_alloc_at _ _ _ 1 rfl, World.cell?_alloc_at _ _ _ 2 rfl, World.cell?_alloc_at _ _ _ 3 rfl, World.cell?_alloc_at _ _ _ 4 rfl, World.cell?_alloc_at _ _ _ 5 rfl⟩, z1, fun h => ?_, fun h => ?_, hU.j, hU.s, ⟨hG.kp.trans hGf.kp, hGf.z⟩⟩
        · have := hU.nil h
          simp at this
          exact this.1
        · obtain ⟨M, cap, hv, hM, hC⟩ := hU.pos h
          simp at hv
          have hM' : W.heap.size ≤ M := hM
          exact ⟨M, hv.1, Nat.le_trans hb.size hM', fun i hi => cell_later hbA (hC.cell i hi)⟩
      case rest =>
      obtain ⟨R, sp, sc, g, n, rfl, hO⟩ := hcut
      have a15 := (HI.out.good hO.good).a15
      go_wp2_with fail
      go_ret
      rw [HZ.out]
      exact ⟨R, sp, sc, g, n, rfl, hO⟩
end Go.Proofs.Ybulkclmc
