import Derived.Test.YbulkclmcOk
import Derived.Test.YbulkclmcAny
import Derived.Deep.OwnRows
import Derived.LaidEqlPtr
namespace Go.Proofs.Ybulkclmc
open Go.RowKit

/-- a slice that came in, its elements one cell each -/
structure SlIn (w : World) (p : Option Addr) (n : Nat) (f : Nat → Value) : Prop where
  pos : 0 < n → ∃ b o, p = some ⟨b, o, none⟩ ∧ ∀ i, i < n → w.cell? ⟨b, o + i, none⟩ = some (f i)

theorem SlIn.later {w w' : World} {p : Option Addr} {n : Nat} {f : Nat → Value} (h : SlIn w p n f) (hb : Below w.heap.size w w') : SlIn w' p n f :=
  ⟨fun hn => by obtain ⟨b, o, e, hc⟩ := h.pos hn; exact ⟨b, o, e, fun i hi => cell_later hb (hc i hi)⟩⟩

theorem Yba.info86 : (Yba.prog.info? 86).map (fun i => (i.zero, i.size, i.bytes)) = some (some (.agg #[.int .i64 0, .pointer none, .bool false]), 3, 24) := by kernel_rfl
theorem Yba.info57 : (Yba.prog.info? 57).map (fun i => (i.zero, i.size, i.bytes)) = some (some (.agg #[.int .i64 0, .int .i64 0, .int .i64 0, .bool false]), 4, 32) := by kernel_rfl

def arcTo (oth : Nat → Nat) (k i : Nat) : Value := if i % 3 = 0 then .int .i64 (if i / 3 < k then oth (i / 3) else 0) else if i % 3 = 1 then .pointer none else .bool false
def wsTo (wt : Nat → Int) (k i : Nat) : Value := .int .i64 (if i < k then wt i else 0)
def vwTo (kn : Nat → Bool) (k i : Nat) : Value := if i % 4 = 3 then .bool (if i / 4 < k then kn (i / 4) else false) else .int .i64 0

theorem arc_step {w : World} {b m : Nat} {oth : Nat → Nat} {k : Nat} (h : Cells w b (m * 3) (arcTo oth k)) (hk : k < m) :
    Cells (((w.setCell ⟨b, k * 3, none⟩ (.int .i64 (oth k))).setCell ⟨b, k * 3 + 1, none⟩ (.pointer none)).setCell ⟨b, k * 3 + 2, none⟩ (.bool false)) b (m * 3) (arcTo oth (k + 1)) := by
  refine (((h.set (j := k * 3) (by omega) _).set (j := k * 3 + 1) (by omega) _).set (j := k * 3 + 2) (by omega) _).congr fun i hi => ?_
  unfold arcTo
  by_cases e2 : i = k * 3 + 2
  · subst e2
    simp [show (k * 3 + 2) % 3 = 2 from by omega]
  by_cases e1 : i = k * 3 + 1
  · subst e1
    simp [show (k * 3 + 1) % 3 = 1 from by omega]
  by_cases e0 : i = k * 3
  · subst e0
    simp [show k * 3 / 3 = k from by omega]
  simp only [e0, e1, e2, if_false]
  by_cases e3 : i % 3 = 0
  · simp only [e3, if_true]
    by_cases e4 : i / 3 < k
    · rw [if_pos e4, if_pos (by omega)]
    · rw [if_neg e4, if_neg (by omega)]
  · simp [e3]

theorem ws_step {w : World} {b m : Nat} {wt : Nat → Int} {k : Nat} (h : Cells w b m (wsTo wt k)) (hk : k < m) :
    Cells (w.setCell ⟨b, k, none⟩ (.int .i64 (wt k))) b m (wsTo wt (k + 1)) := by
  refine (h.set hk _).congr fun i hi => ?_
  unfold wsTo
  by_cases e : i = k
  · subst e; simp
  · simp only [e, if_false]
    by_cases e4 : i < k
    · rw [if_pos e4, if_pos (by omega)]
    · rw [if_neg e4, if_neg (by omega)]

theorem ws_skip {w : World} {b m : Nat} {wt : Nat → Int} {k : Nat} (h : Cells w b m (wsTo wt k)) (h0 : wt k = 0) : Cells w b m (wsTo wt (k + 1)) := by
  refine h.congr fun i hi => ?_
  unfold wsTo
  by_cases e : i = k
  · subst e; simp [h0]
  · by_cases e4 : i < k
    · rw [if_pos e4, if_pos (by omega)]
    · rw [if_neg e4, if_neg (by omega)]

theorem vw_step {w : World} {b m : Nat} {kn : Nat → Bool} {k : Nat} (h : Cells w b (m * 4) (vwTo kn k)) (hk : k < m) :
    Cells (w.setCell ⟨b, k * 4 + 3, none⟩ (.bool (kn k))) b (m * 4) (vwTo kn (k + 1)) := by
  refine (h.set (j := k * 4 + 3) (by omega) _).congr fun i hi => ?_
  unfold vwTo
  by_cases e : i = k * 4 + 3
  · subst e
    simp [show (k * 4 + 3) % 4 = 3 from by omega, show (k * 4 + 3) / 4 = k from by omega]
  · simp only [e, if_false]
    by_cases e3 : i % 4 = 3
    · simp only [e3, if_true]
      by_cases e4 : i / 4 < k
      · rw [if_pos e4, if_pos (by omega)]
      · rw [if_neg e4, if_neg (by omega)]
    · simp [e3]

theorem vw_skip {w : World} {b m : Nat} {kn : Nat → Bool} {k : Nat} (h : Cells w b (m * 4) (vwTo kn k)) (h0 : kn k = false) : Cells w b (m * 4) (vwTo kn (k + 1)) := by
  refine h.congr fun i hi => ?_
  unfold vwTo
  by_cases e3 : i % 4 = 3
  · simp only [e3, if_true]
    by_cases e : i / 4 = k
    · rw [e]; simp [h0]
    · by_cases e4 : i / 4 < k
      · rw [if_pos e4, if_pos (by omega)]
      · rw [if_neg e4, if_neg (by omega)]
  · simp [e3]

structure WdA (ARC WS m k : Nat) (oth : Nat → Nat) (wt : Nat → Int) (w wr : World) : Prop where
  arc : Cells wr ARC (m * 3) (arcTo oth k)
  ws : Cells wr WS m (wsTo wt k)
  bel : Below w.heap.size w wr
  sa : w.heap.size ≤ ARC
  sw : w.heap.size ≤ WS
  ne : ARC ≠ WS

theorem Yba.info60 : (Yba.prog.info? 60).map (fun i => (i.zero, i.size, i.bytes)) = some (some (.agg #[.slice none 0 0, .bool false]), 2, 32) := by kernel_rfl
theorem Yba.info4 : (Yba.prog.info? 4).map (fun i => (i.zero, i.size, i.bytes)) = some (some (.bool false), 1, 1) := by kernel_rfl
theorem make41 (w : World) : (Instr.makeSlice 41 (.int .i64 1) (.int .i64 1)).run Yba.prog w = .ok (.slice (some ⟨w.heap.size, 0, none⟩) 1 1) (w.alloc (.cells #[.bool false] 4)) := by
  have := run_make_row' (P := Yba.prog) 41 4 (.bool false) 1 Yba.underlying41 Yba.info4 rfl .i64 .i64 1 (by omega) (by omega) w
  rw [show madeCells #[Value.bool false] 1 = #[Value.bool false] from by
    rw [Array.ext_iff]; refine ⟨by simp [madeCells], fun i h1 h2 => ?_⟩
    obtain rfl : i = 0 := by simp at h2; exact h2
    simp [madeCells]] at this
  exact this
theorem make40 (w : World) : (Instr.makeSlice 40 (.int .i64 1) (.int .i64 1)).run Yba.prog w = .ok (.slice (some ⟨w.heap.size, 0, none⟩) 1 1) (w.alloc (.cells #[.slice none 0 0, .bool false] 60)) := by
  obtain ⟨i60, hi60, hz600, hz601, hz602⟩ := info_parts Yba.info60
  have := run_make (P := Yba.prog) w 40 60 i60 _ Yba.underlying40 hi60 hz600 .i64 .i64 1 1 (by omega) (Int.le_refl _) (by rw [hz602]; omega) (by omega)
  rw [hz601] at this
  rw [show madeCells (Value.agg #[Value.slice none 0 0, Value.bool false]).cells (Int.toNat 1 * 2) = #[Value.slice none 0 0, Value.bool false] from by
    rw [Array.ext_iff]; refine ⟨by simp [madeCells], fun i h1 h2 => ?_⟩
    have h3 : i = 0 ∨ i = 1 := by simp at h2; omega
    rcases h3 with rfl | rfl <;> simp [madeCells, Value.cells]] at this
  exact this

theorem eql39 (O : Nat) (w : World) : (binOp .eql 39 (.pointer (some ⟨O, 0, none⟩)) (.pointer (some ⟨O, 0, none⟩))).run Yba.prog w = .ok (.bool true) w := by
  obtain ⟨j, hj⟩ : ∃ j, Yba.prog.info? 81 = some j := Option.isSome_iff_exists.1 (by kernel_rfl)
  exact run_eql_ptr_same w _ Yba.underlying39 hj

theorem WdA.step1 {ARC WS m k : Nat} {oth : Nat → Nat} {wt : Nat → Int} {w wr : World} (h : WdA ARC WS m k oth wt w wr) (hk : k < m) :
    WdA ARC WS m (k + 1) oth wt w ((((wr.setCell ⟨ARC, k * 3, none⟩ (.int .i64 (oth k))).setCell ⟨ARC, k * 3 + 1, none⟩ (.pointer none)).setCell ⟨ARC, k * 3 + 2, none⟩ (.bool false)).setCell ⟨WS, k, none⟩ (.int .i64 (wt k))) :=
  ⟨(arc_step h.arc hk).other h.ne _, ws_step (((h.ws.other (Ne.symm h.ne) _).other (Ne.symm h.ne) _).other (Ne.symm h.ne) _) hk, (((h.bel.setCell h.sa _).setCell h.sa _).setCell h.sa _).setCell h.sw _, h.sa, h.sw, h.ne⟩

theorem WdA.step0 {ARC WS m k : Nat} {oth : Nat → Nat} {wt : Nat → Int} {w wr : World} (h : WdA ARC WS m k oth wt w wr) (hk : k < m) (h0 : wt k = 0) :
    WdA ARC WS m (k + 1) oth wt w (((wr.setCell ⟨ARC, k * 3, none⟩ (.int .i64 (oth k))).setCell ⟨ARC, k * 3 + 1, none⟩ (.pointer none)).setCell ⟨ARC, k * 3 + 2, none⟩ (.bool false)) :=
  ⟨arc_step h.arc hk, ws_skip (((h.ws.other (Ne.symm h.ne) _).other (Ne.symm h.ne) _).other (Ne.symm h.ne) _) h0, ((h.bel.setCell h.sa _).setCell h.sa _).setCell h.sa _, h.sa, h.sw, h.ne⟩

/-- what stands ahead of the agent's making -/
structure WdB (ARC WS V RP m na : Nat) (oth : Nat → Nat) (wt : Nat → Int) (kn : Nat → Bool) (w wr : World) : Prop where
  arc : Cells wr ARC (m * 3) (arcTo oth m)
  ws : Cells wr WS m (fun x => .int .i64 (wt x))
  view : Cells wr V (na * 4) (vwTo kn na)
  rep : Cells wr RP na (fun _ => .int .i64 0)
  bel : Below w.heap.size w wr
  sr : w.heap.size ≤ RP
  nw : ¬ WS = RP
  nv : ¬ V = RP

theorem WdB.later {ARC WS V RP m na : Nat} {oth : Nat → Nat} {wt : Nat → Int} {kn : Nat → Bool} {w wr w' : World} (h : WdB ARC WS V RP m na oth wt kn w wr) (hb : Below wr.heap.size wr w') : WdB ARC WS V RP m na oth wt kn w w' :=
  ⟨h.arc.later hb, h.ws.later hb, h.view.later hb, h.rep.later hb, h.bel.trans (hb.mono h.bel.size), h.sr, h.nw, h.nv⟩

/-- the agent that the law makes -/
structure AgIn (AG DB SB PB O na me m ARC WS V RP : Nat) (v deg : Int) (w : World) : Prop where
  ok : OkIn AG DB SB PB O v 0 w
  aid : w.cell? ⟨AG, 0, none⟩ = some (.int .i64 me)
  a3 : w.cell? ⟨AG, 3, none⟩ = some (.slice (some ⟨ARC, 0, none⟩) m m)
  a10 : w.cell? ⟨AG, 10, none⟩ = some (.slice (some ⟨V, 0, none⟩) na na)
  a15 : w.cell? ⟨AG, 15, none⟩ = some (.slice (some ⟨WS, 0, none⟩) m m)
  a16 : w.cell? ⟨AG, 16, none⟩ = some (.int .i64 deg)
  a17 : w.cell? ⟨AG, 17, none⟩ = some (.slice (some ⟨RP, 0, none⟩) na na)
  f16 : w.frozen? ⟨AG, 16, none⟩ = false

theorem AgIn.later {AG DB SB PB O na me m ARC WS V RP : Nat} {v deg : Int} {w w' : World} (h : AgIn AG DB SB PB O na me m ARC WS V RP v deg w) (hb : Below w.heap.size w w') : AgIn AG DB SB PB O na me m ARC WS V RP v deg w' :=
  ⟨h.ok.later hb, cell_later hb h.aid, cell_later hb h.a3, cell_later hb h.a10, cell_later hb h.a15, cell_later hb h.a16, cell_later hb h.a17, (hb.frozen (p := ⟨AG, 16, none⟩) (World.block_lt_of_cell? _ _ h.a16)).trans h.f16⟩

/-- the agent's cells ahead of its making -/
structure AgC (DB SB PB O na me m ARC WS V RP : Nat) (v deg : Int) (c : Array Value) (w : World) : Prop where
  c0 : c[0]? = some (.int .i64 me)
  c2 : c[2]? = some (.slice (some ⟨DB, 0, none⟩) 1 1)
  c3 : c[3]? = some (.slice (some ⟨ARC, 0, none⟩) m m)
  c6 : c[6]? = some (.pointer (some ⟨O, 0, none⟩))
  c8 : c[8]? = some (.int .i64 0)
  c9 : c[9]? = some (.int .i64 0)
  c10 : c[10]? = some (.slice (some ⟨V, 0, none⟩) na na)
  c11 : c[11]? = some (.slice (some ⟨SB, 0, none⟩) 1 1)
  c12 : c[12]? = some (.slice (some ⟨PB, 0, none⟩) 1 1)
  c15 : c[15]? = some (.slice (some ⟨WS, 0, none⟩) m m)
  c16 : c[16]? = some (.int .i64 deg)
  c17 : c[17]? = some (.slice (some ⟨RP, 0, none⟩) na na)
  d0 : w.cell? ⟨DB, 0, none⟩ = some (.int .i64 v)
  s0 : w.cell? ⟨SB, 0, none⟩ = some (.slice none 0 0)
  s1 : w.cell? ⟨SB, 1, none⟩ = some (.bool false)
  p0 : w.cell? ⟨PB, 0, none⟩ = some (.bool false)

theorem AgC.later {DB SB PB O na me m ARC WS V RP : Nat} {v deg : Int} {c : Array Value} {w w' : World} (h : AgC DB SB PB O na me m ARC WS V RP v deg c w) (hb : Below w.heap.size w w') : AgC DB SB PB O na me m ARC WS V RP v deg c w' :=
  ⟨h.c0, h.c2, h.c3, h.c6, h.c8, h.c9, h.c10, h.c11, h.c12, h.c15, h.c16, h.c17, cell_later hb h.d0, cell_later hb h.s0, cell_later hb h.s1, cell_later hb h.p0⟩

theorem AgC.box {DB SB PB O na me m ARC WS V RP : Nat} {v deg : Int} {c : Array Value} {w : World} (h : AgC DB SB PB O na me m ARC WS V RP v deg c w) (t : TypeId) : AgIn w.heap.size DB SB PB O na me m ARC WS V RP v deg (w.alloc (.cells c t)) := by
  have hb : Below w.heap.size w (w.alloc (.cells c t)) := (Below.refl _ _).alloc (Nat.le_refl _) _
  have hn : ∀ (i : Nat) (u : Value), c[i]? = some u → (w.alloc (.cells c t)).cell? ⟨w.heap.size, i, none⟩ = some u := fun i u hu => by
    rw [World.cell?_alloc_at c t _ i rfl, hu]
  refine ⟨⟨hn _ _ h.c2, hn _ _ h.c6, hn _ _ h.c8, hn _ _ h.c9, hn _ _ h.c11, hn _ _ h.c12, cell_later hb h.d0, cell_later hb h.s0, cell_later hb h.s1, cell_later hb h.p0⟩, hn _ _ h.c0, hn _ _ h.c3, hn _ _ h.c10, hn _ _ h.c15, hn _ _ h.c16, hn _ _ h.c17, ?_⟩
  exact World.frozen?_alloc_at c t _ 16 rfl

theorem arc_at (oth : Nat → Nat) (m : Nat) : ∀ x, x < m → arcTo oth m (x * 3) = .int .i64 (oth x) ∧ arcTo oth m (x * 3 + 1) = .pointer none ∧ arcTo oth m (x * 3 + 2) = .bool false := by
  intro x hx
  refine ⟨?_, ?_, ?_⟩
  · simp [arcTo, show x * 3 / 3 = x from by omega, hx]
  · simp [arcTo, show (x * 3 + 1) % 3 = 1 from by omega]
  · simp [arcTo, show (x * 3 + 2) % 3 = 2 from by omega]

theorem vw_at (kn : Nat → Bool) (na : Nat) : ∀ k, k < na → vwTo kn na (k * 4 + 3) = .bool (kn k) := by
  intro k hk
  simp [vwTo, show (k * 4 + 3) % 4 = 3 from by omega, show (k * 4 + 3) / 4 = k from by omega, hk]

def R22 (H O na me m ARC WS V RP : Nat) (v deg : Int) : Nat → Value → World → Prop
  | 0, x, _ => x = .int .i64 me
  | 1, x, _ => x = .int .i64 na
  | 2, x, _ => x = .int .i64 v
  | 3, x, w => ∃ DB, x = .slice (some ⟨DB, 0, none⟩) 1 1 ∧ w.cell? ⟨DB, 0, none⟩ = some (.int .i64 v)
  | 4, x, _ => x = .pointer (some ⟨O, 0, none⟩)
  | 5, x, w => ∃ SB, x = .slice (some ⟨SB, 0, none⟩) 1 1 ∧ w.cell? ⟨SB, 0, none⟩ = some (.slice none 0 0) ∧ w.cell? ⟨SB, 1, none⟩ = some (.bool false)
  | 6, x, w => ∃ PB, x = .slice (some ⟨PB, 0, none⟩) 1 1 ∧ w.cell? ⟨PB, 0, none⟩ = some (.bool false)
  | 7, x, _ => x = .int .i64 na
  | 8, x, _ => ∃ NB, x = .slice (some ⟨NB, 0, none⟩) na na
  | 9, x, _ => x = .slice (some ⟨ARC, 0, none⟩) m m
  | 10, x, _ => x = .slice (some ⟨WS, 0, none⟩) m m
  | 11, x, _ => x = .slice (some ⟨V, 0, none⟩) na na
  | 12, x, _ => x = .slice (some ⟨RP, 0, none⟩) na na
  | 13, x, _ => x = .int .i64 deg
  | 14, x, w => ∃ DB SB PB cs, x = .agg cs ∧ AgC DB SB PB O na me m ARC WS V RP v deg (Value.agg cs).cells w
  | 15, x, w => ∃ AG DB SB PB, x = .pointer (some ⟨AG, 0, none⟩) ∧ AgIn AG DB SB PB O na me m ARC WS V RP v deg w ∧ H ≤ AG
  | 16, x, w => ∃ AG DB SB PB, x = .pointer (some ⟨AG, 0, none⟩) ∧ AgIn AG DB SB PB O na me m ARC WS V RP v deg w ∧ H ≤ AG
  | _, _, _ => True

theorem R22_stable {H O na me m ARC WS V RP : Nat} {v deg : Int} : ∀ j x w w', R22 H O na me m ARC WS V RP v deg j x w → Below w.heap.size w w' → R22 H O na me m ARC WS V RP v deg j x w'
  | 0, _, _, _, h, _ => h
  | 1, _, _, _, h, _ => h
  | 2, _, _, _, h, _ => h
  | 3, x, w, w', h, hb => by obtain ⟨a, e, h1⟩ := h; exact ⟨a, e, cell_later hb h1⟩
  | 4, _, _, _, h, _ => h
  | 5, x, w, w', h, hb => by obtain ⟨a, e, h1, h2⟩ := h; exact ⟨a, e, cell_later hb h1, cell_later hb h2⟩
  | 6, x, w, w', h, hb => by obtain ⟨a, e, h1⟩ := h; exact ⟨a, e, cell_later hb h1⟩
  | 7, _, _, _, h, _ => h
  | 8, _, _, _, h, _ => h
  | 9, _, _, _, h, _ => h
  | 10, _, _, _, h, _ => h
  | 11, _, _, _, h, _ => h
  | 12, _, _, _, h, _ => h
  | 13, _, _, _, h, _ => h
  | 14, x, w, w', h, hb => by obtain ⟨a, b, c, d, e, h1⟩ := h; exact ⟨a, b, c, d, e, h1.later hb⟩
  | 15, x, w, w', h, hb => by obtain ⟨a, b, c, d, e, h1, h2⟩ := h; exact ⟨a, b, c, d, e, h1.later hb, h2⟩
  | 16, x, w, w', h, hb => by obtain ⟨a, b, c, d, e, h1, h2⟩ := h; exact ⟨a, b, c, d, e, h1.later hb, h2⟩
  | _ + 17, _, _, _, _, _ => trivial

set_option maxRecDepth 100000 in
theorem wd_long (n id rot : Int) (rev : Bool) (p4 p5 p6 : Option Addr) (n4 c4 n5 c5 n6 c6 : Nat) (deg v : Int) (w : World) (h : 1024 < n4) (h2 : n4 ≤ 9223372036854775807) :
    Calls Yba.prog 5 #[.int .u8 n, .int .u8 id, .int .u8 rot, .bool rev, .slice p4 n4 c4, .slice p5 n5 c5, .slice p6 n6 c6, .int .i64 deg, .int .i64 v] w fun e w' => e = .returned (.bool true) ∧ Below w.heap.size w w' := by
  go_enter Yba.func5, Yba.ntmps5
  go_wp2
  go_ret
  exact ⟨rfl, Below.refl _ _⟩

set_option maxRecDepth 100000 in
set_option maxHeartbeats 4000000 in
theorem wd_walk (n id rot : Nat) (rev : Bool) (p4 p5 p6 : Option Addr) (n4 c4 n5 c5 n6 c6 na me : Nat) (deg v : Int) (ot : Nat → Nat) (wg : Nat → Nat) (kk : Nat → Bool) (w : World)
    (h4 : n4 ≤ 1024) (h5 : n5 ≤ 9223372036854775807) (h6 : n6 ≤ 9223372036854775807) (hn : n ≤ 255) (hid : id ≤ 255) (hrot : rot ≤ 255)
    (i4 : SlIn w p4 n4 (fun i => .int .u8 (ot i))) (i5 : SlIn w p5 n5 (fun i => .int .u8 (wg i))) (i6 : SlIn w p6 n6 (fun i => .bool (kk i)))
    (ho : ∀ i, ot i ≤ 255) (hg : ∀ i, wg i ≤ 255) (hna : na = n % 6 + 1) (hme : me = id % na) :
    Calls Yba.prog 5 #[.int .u8 n, .int .u8 id, .int .u8 rot, .bool rev, .slice p4 n4 c4, .slice p5 n5 c5, .slice p6 n6 c6, .int .i64 deg, .int .i64 v] w fun e w' => e = .returned (.bool true) ∧ Below w.heap.size w w' := by
  obtain ⟨i3, hi3, hz30, hz31, hz32⟩ := info_parts Yba.info3
  obtain ⟨i86, hi86, hz860, hz861, hz862⟩ := info_parts Yba.info86
  obtain ⟨i57, hi57, hz570, hz571, hz572⟩ := info_parts Yba.info57
  have hna1 : 1 ≤ na := by omega
  have hna6 : na ≤ 6 := by omega
  have hme1 : me < na := by rw [hme]; exact Nat.mod_lt _ (by omega)
  have enA : (n : Int) % 6 + 1 = (na : Int) := by omega
  have enM : (id : Int) % (na : Int) = (me : Int) := by rw [hme, Int.natCast_emod]
  clear hna hme
  go_enter Yba.func5, Yba.ntmps5
  go_wp2_with (first | (at_make; refine wpList_make_full _ rfl (.tmp 46) (.tmp 46) 38 rfl w.heap.size 86 i86 (.agg #[.int .i64 0, .pointer none, .bool false]) 3 Yba.underlying38 hi86 hz860 hz861 .i64 .i64 _ _ n4 rfl rfl rfl rfl (by rw [hz862]; omega) (by unfold maxLen; omega) (Nat.le_refl _) ?_; intro w1 hown1 hgrow1; have hb1 := (Below.refl w.heap.size w).grown hgrow1 (Nat.le_refl _) (by simp)) | (at_make; refine wpList_make_full _ rfl (.tmp 49) (.tmp 49) 37 rfl w1.heap.size 3 i3 (.int .i64 0) 1 Yba.underlying37 hi3 hz30 hz31 .i64 .i64 _ _ n4 rfl rfl rfl rfl (by rw [hz32]; omega) (by unfold maxLen; omega) (Nat.le_refl _) ?_; intro w2 hown2 hgrow2; have hb2 := (Below.refl w1.heap.size w1).grown hgrow2 (Nat.le_refl _) (by simp)) | fail)
  have hA := Cells.made hown1
  have hP := Cells.made hown2
  have hAP : w.heap.size < w1.heap.size := hA.lt
  obtain ⟨oth, hoth⟩ : ∃ f : Nat → Nat, ∀ i, f i = ot i % na := ⟨_, fun _ => rfl⟩
  obtain ⟨wt, hwt⟩ : ∃ f : Nat → Int, ∀ i, f i = if i < n5 then (wg i : Int) else 0 := ⟨_, fun _ => rfl⟩
  have hothL : ∀ x, oth x < na := fun x => by rw [hoth]; exact Nat.mod_lt _ (by omega)
  have hwtR : ∀ x, 0 ≤ wt x ∧ wt x ≤ 255 := fun x => by rw [hwt]; have := hg x; split <;> omega
  have HW : Hid (∀ i, wt i = if i < n5 then (wg i : Int) else 0) := hwt
  have HO : Hid (∀ i, oth i = ot i % na) := hoth
  clear hwt hoth
  have hI : WdA w.heap.size w1.heap.size n4 0 oth wt w w2 := by
    rw [Nat.mul_one] at hP
    refine ⟨(hA.later hb2).congr ?_, hP.congr ?_, hb1.trans (hb2.mono hb1.size), Nat.le_refl _, Nat.le_of_lt hAP, by omega⟩
    · intro i hi
      rw [made_get (by omega)]
      have : i % 3 = 0 ∨ i % 3 = 1 ∨ i % 3 = 2 := by omega
      rcases this with e | e | e <;> simp [arcTo, Value.cells, e]
    · intro i hi; rw [made_get (by omega)]; simp [wsTo, Value.cells, Nat.mod_one]
  clear hown1 hgrow1 hb1 hown2 hgrow2 hb2 hA hP
  go_loopw [53] (fun x wr => ∃ k : Nat, k ≤ n4 ∧ x = .int .i64 k ∧ WdA w.heap.size w1.heap.size n4 k oth wt w wr) (fun x _ => n4 - (intOf x).toNat)
  case atStart => exact ⟨0, Nat.zero_le _, rfl, hI⟩
  case round =>
    obtain ⟨k, hk, rfl, hR⟩ := hrel
    clear hI
    have hne : ¬ w.heap.size = w1.heap.size := by omega
    have hne' : ¬ w1.heap.size = w.heap.size := by omega
    by_cases hlt : k < n4
    · obtain ⟨b4, o4, rfl, hc4⟩ := i4.pos (by omega)
      have c4 := cell_later hR.bel (hc4 k hlt)
      have hb4 := World.block_lt_of_cell? _ _ (hc4 k hlt)
      have n4a : ¬ b4 = w.heap.size := by show ¬ b4 = _; have : b4 < w.heap.size := hb4; omega
      have n4b : ¬ b4 = w1.heap.size := by have : b4 < w.heap.size := hb4; omega
      have ho4 := ho k
      have em : ((ot k : Nat) : Int) % (na : Int) = (oth k : Int) := by rw [HO.out, Int.natCast_emod]
      have a0 := hR.arc.cell (k * 3) (by omega)
      have a1 := hR.arc.cell (k * 3 + 1) (by omega)
      have a2 := hR.arc.cell (k * 3 + 2) (by omega)
      have f0 := hR.arc.free (k * 3) (by omega)
      have f1 := hR.arc.free (k * 3 + 1) (by omega)
      have f2 := hR.arc.free (k * 3 + 2) (by omega)
      have u0 := hR.ws.cell k hlt
      have v0 := hR.ws.free k hlt
      have HR : Hid (WdA w.heap.size w1.heap.size n4 k oth wt w wr) := hR
      clear hR hc4
      by_cases hk5 : k < n5
      · obtain ⟨b5, o5, rfl, hc5⟩ := i5.pos (by omega)
        have c5 := cell_later HR.out.bel (hc5 k hk5)
        have hb5 := World.block_lt_of_cell? _ _ (hc5 k hk5)
        have n5a : ¬ b5 = w.heap.size := by have : b5 < w.heap.size := hb5; omega
        have n5b : ¬ b5 = w1.heap.size := by have : b5 < w.heap.size := hb5; omega
        have hg5 := hg k
        have ew : (wg k : Int) = wt k := by rw [HW.out, if_pos hk5]
        clear hc5
        go_wp2
        go_roundw
        case rel =>
          refine ⟨k + 1, by omega, by go_num, ?_⟩
          exact HR.out.step1 hlt
        case measure => simp [intOf]; omega
      · have ew : wt k = 0 := by rw [HW.out, if_neg hk5]
        go_wp2
        go_roundw
        case rel =>
          refine ⟨k + 1, by omega, by go_num, ?_⟩
          exact HR.out.step0 hlt ew
        case measure => simp [intOf]; omega
    · obtain rfl : n4 = k := by omega
      obtain ⟨W1, rfl⟩ : ∃ W1, W1 = wr := ⟨wr, rfl⟩
      obtain ⟨kn, hkn⟩ : ∃ f : Nat → Bool, ∀ i, f i = if i < n6 then kk i else false := ⟨_, fun _ => rfl⟩
      have HKN : Hid (∀ i, kn i = if i < n6 then kk i else false) := hkn
      clear hkn
      go_wp2_with (first | (at_make; refine wpList_make_full _ rfl (.tmp 80) (.tmp 80) 34 rfl W1.heap.size 57 i57 (.agg #[.int .i64 0, .int .i64 0, .int .i64 0, .bool false]) 4 Yba.underlying34 hi57 hz570 hz571 .i64 .i64 _ _ na rfl rfl rfl rfl (by rw [hz572]; omega) (by unfold maxLen; omega) (Nat.le_refl _) ?_; intro w3 hown3 hgrow3; have hb3 := (Below.refl W1.heap.size W1).grown hgrow3 (Nat.le_refl _) (by simp)) | fail)
      have hV := Cells.made hown3
      have hV0 : Cells w3 W1.heap.size (na * 4) (vwTo kn 0) := by
        refine hV.congr fun i hi => ?_
        rw [made_get (by omega)]
        have : i % 4 = 0 ∨ i % 4 = 1 ∨ i % 4 = 2 ∨ i % 4 = 3 := by omega
        rcases this with e | e | e | e <;> simp [vwTo, Value.cells, e]
      clear hV hown3 hgrow3
      have hRs := hR.bel.size
      go_loopw [25] (fun x wx => ∃ j : Nat, j ≤ na ∧ x = .int .i64 j ∧ Cells wx W1.heap.size (na * 4) (vwTo kn j) ∧ Below W1.heap.size W1 wx) (fun x _ => na - (intOf x).toNat)
      case atStart => exact ⟨0, Nat.zero_le _, rfl, hV0, hb3⟩
      case round =>
        obtain ⟨j, hj, rfl, hVj, hbj⟩ := hrel
        clear hV0 hb3
        by_cases hlj : j < na
        · have v3 := hVj.cell (j * 4 + 3) (by omega)
          have g3 := hVj.free (j * 4 + 3) (by omega)
          by_cases hj6 : j < n6
          · obtain ⟨b6, o6, rfl, hc6⟩ := i6.pos (by omega)
            have c6 := cell_later (hR.bel.trans (hbj.mono hR.bel.size)) (hc6 j hj6)
            have hb6 := World.block_lt_of_cell? _ _ (hc6 j hj6)
            have n6a : ¬ b6 = w.heap.size := by have : b6 < w.heap.size := hb6; omega
            have ek : kk j = kn j := by rw [HKN.out, if_pos hj6]
            rw [ek] at c6
            have HVj : Hid (Cells _ _ (na * 4) (vwTo kn j) ∧ Below _ _ _) := ⟨hVj, hbj⟩
            clear hVj hbj hc6
            go_wp2
            go_roundw
            case rel =>
              exact ⟨j + 1, by omega, by go_num, vw_step HVj.out.1 hlj, HVj.out.2.setCell (Nat.le_refl _) _⟩
            case measure => simp [intOf]; omega
          · have ek : kn j = false := by rw [HKN.out, if_neg hj6]
            go_wp2
            go_roundw
            case rel =>
              exact ⟨j + 1, by omega, by go_num, vw_skip hVj ek, hbj⟩
            case measure => simp [intOf]; omega
        · obtain rfl : na = j := by omega
          obtain ⟨W2, rfl⟩ : ∃ W2, W2 = wr := ⟨wr, rfl⟩
          go_wp2_with (first | (at_make; refine wpList_make_full _ rfl (.tmp 99) (.tmp 99) 37 rfl W2.heap.size 3 i3 (.int .i64 0) 1 Yba.underlying37 hi3 hz30 hz31 .i64 .i64 _ _ na rfl rfl rfl rfl (by rw [hz32]; omega) (by unfold maxLen; omega) (Nat.le_refl _) ?_; intro w4 hown4 hgrow4; have hb4 := (Below.refl W2.heap.size W2).grown hgrow4 (Nat.le_refl _) (by simp)) | fail)
          have hRp := Cells.made hown4
          have hB : WdB w.heap.size w1.heap.size W1.heap.size W2.heap.size n4 na oth wt kn w w4 := by
            rw [Nat.mul_one] at hRp
            have hbb : Below W1.heap.size W1 w4 := hbj.trans (hb4.mono hbj.size)
            have e1 := hR.ws.lt
            have e2 := hbj.size
            refine ⟨hR.arc.later hbb, (hR.ws.later hbb).congr ?_, hVj.later hb4, hRp.congr ?_, hR.bel.trans (hbb.mono hR.bel.size), by omega, by omega, ?_⟩
            · intro i hi; simp [wsTo, hi]
            · intro i hi; rw [made_get (by omega)]; simp [Value.cells, Nat.mod_one]
            · have := hVj.lt; omega
          clear hown4 hgrow4 hRp hVj hbj hR hb4
          refine (border_any na rot rev w4 hna1 hna6 hrot).mono ?_
          rintro e w5 ⟨O, A, P, rfl, hOI, -, -, hO5, hOl, hb5⟩
          have hB5 := hB.later hb5
          clear hB hOI hb5 hO5
          have HB : Hid (WdB w.heap.size w1.heap.size W1.heap.size W2.heap.size n4 na oth wt kn w w5) := hB5
          clear hB5
          have hmk := run_make_row' (P := Yba.prog) 37 3 (.int .i64 0) 8 Yba.underlying37 Yba.info3 rfl .i64 .i64 na (by omega) (by omega)
          have hmk0 := make40
          have hmk1 := make41
          go_upto_region 22 with fail
          go_cut [28] (fun s28 wx => ∃ AG DB SB PB, s28 = .pointer (some ⟨AG, 0, none⟩) ∧ OkIn AG DB SB PB O v 0 wx ∧ WdIn AG w.heap.size W1.heap.size w1.heap.size W2.heap.size na n4 me deg oth kn wt (arcTo oth n4) (vwTo kn na) (fun _ => .int .i64 0) wx ∧ w5.heap.size ≤ AG ∧ Below w5.heap.size w5 wx)
          case first =>
            have hmk2 := hmk
            refine wp_region_rel (n := 17) (by kernel_rfl) (plain_of (show plainB _ 17 226 = true from by decide)) (R22 w5.heap.size O na me n4 w.heap.size w1.heap.size W1.heap.size W2.heap.size v deg) R22_stable ?_ ?_
            · intro i o ho a wq hbq hev hR
              have e20 : a.eval (.tmp 20) = .int .i64 me := hev 20 (by decide)
              have e19 : a.eval (.tmp 19) = .int .i64 na := hev 19 (by decide)
              have e8 : a.eval (.tmp 8) = .int .i64 v := hev 8 (by decide)
              have e27 : a.eval (.tmp 27) = .pointer (some ⟨O, 0, none⟩) := hev 27 (by decide)
              have e21 : a.eval (.tmp 21) = .slice (some ⟨w.heap.size, 0, none⟩) n4 n4 := hev 21 (by decide)
              have e22 : a.eval (.tmp 22) = .slice (some ⟨w1.heap.size, 0, none⟩) n4 n4 := hev 22 (by decide)
              have e24 : a.eval (.tmp 24) = .slice (some ⟨W1.heap.size, 0, none⟩) na na := hev 24 (by decide)
              have e26 : a.eval (.tmp 26) = .slice (some ⟨W2.heap.size, 0, none⟩) na na := hev 26 (by decide)
              have e7 : a.eval (.tmp 7) = .int .i64 deg := hev 7 (by decide)
              clear hev
              have hi : i < 17 := (Array.getElem?_eq_some_iff.1 ho).1
              have hc : i = 0 ∨ i = 1 ∨ i = 2 ∨ i = 3 ∨ i = 4 ∨ i = 5 ∨ i = 6 ∨ i = 7 ∨ i = 8 ∨ i = 9 ∨ i = 10 ∨ i = 11 ∨ i = 12 ∨ i = 13 ∨ i = 14 ∨ i = 15 ∨ i = 16 := by omega
              rcases hc with rfl | rfl | rfl | rfl | rfl | rfl | rfl | rfl | rfl | rfl | rfl | rfl | rfl | rfl | rfl | rfl | rfl
              · cases ho
                refine ⟨_, wq, ?_, Below.refl _ _, rfl⟩
                simp [execOp, e20]
              · cases ho
                refine ⟨_, wq, ?_, Below.refl _ _, rfl⟩
                simp [execOp, e19]
              · cases ho
                refine ⟨_, wq, ?_, Below.refl _ _, rfl⟩
                simp [execOp, e8]
              · cases ho
                have f : a.eval (.tmp 107) = .int .i64 v := hR ⟨2, .data⟩ (by simp) rfl 107 rfl
                refine ⟨.slice (some ⟨wq.heap.size, 0, none⟩) 1 1, wq.alloc (.cells #[.int .i64 v] 3), ?_, (Below.refl _ _).alloc (Nat.le_refl _) _, wq.heap.size, rfl, ?_⟩
                · simp [Act.eval] at f
                  simp [execOp, f, go_sem]
                · rw [World.cell?_alloc_at _ _ _ 0 rfl]; rfl
              · cases ho
                refine ⟨_, wq, ?_, Below.refl _ _, rfl⟩
                simp [execOp, e27]
              · cases ho
                refine ⟨.slice (some ⟨wq.heap.size, 0, none⟩) 1 1, wq.alloc (.cells #[.slice none 0 0, .bool false] 60), ?_, (Below.refl _ _).alloc (Nat.le_refl _) _, wq.heap.size, rfl, ?_, ?_⟩
                · simp [execOp, hmk0, go_sem]
                · rw [World.cell?_alloc_at _ _ _ 0 rfl]; rfl
                · rw [World.cell?_alloc_at _ _ _ 1 rfl]; rfl
              · cases ho
                refine ⟨.slice (some ⟨wq.heap.size, 0, none⟩) 1 1, wq.alloc (.cells #[.bool false] 4), ?_, (Below.refl _ _).alloc (Nat.le_refl _) _, wq.heap.size, rfl, ?_⟩
                · simp [execOp, hmk1, go_sem]
                · rw [World.cell?_alloc_at _ _ _ 0 rfl]; rfl
              · cases ho
                refine ⟨_, wq, ?_, Below.refl _ _, rfl⟩
                simp [execOp, e19]
              · cases ho
                have f : a.eval (.tmp 112) = .int .i64 na := hR ⟨7, .data⟩ (by simp) rfl 112 rfl
                refine ⟨.slice (some ⟨wq.heap.size, 0, none⟩) na na, wq.alloc (.cells (madeCells #[.int .i64 0] na) 3), ?_, (Below.refl _ _).alloc (Nat.le_refl _) _, wq.heap.size, rfl⟩
                · simp [Act.eval] at f
                  simp [execOp, f, hmk2, go_sem]
              · cases ho
                refine ⟨_, wq, ?_, Below.refl _ _, rfl⟩
                simp [execOp, e21]
              · cases ho
                refine ⟨_, wq, ?_, Below.refl _ _, rfl⟩
                simp [execOp, e22]
              · cases ho
                refine ⟨_, wq, ?_, Below.refl _ _, rfl⟩
                simp [execOp, e24]
              · cases ho
                refine ⟨_, wq, ?_, Below.refl _ _, rfl⟩
                simp [execOp, e26]
              · cases ho
                refine ⟨_, wq, ?_, Below.refl _ _, rfl⟩
                simp [execOp, e7]
              · cases ho
                have f0 : a.eval (.tmp 105) = .int .i64 me := hR ⟨0, .data⟩ (by simp) rfl 105 rfl
                have f1 : a.eval (.tmp 106) = .int .i64 na := hR ⟨1, .data⟩ (by simp) rfl 106 rfl
                obtain ⟨DB, f3, d0⟩ : ∃ DB, a.eval (.tmp 108) = .slice (some ⟨DB, 0, none⟩) 1 1 ∧ wq.cell? ⟨DB, 0, none⟩ = some (.int .i64 v) := hR ⟨3, .data⟩ (by simp) rfl 108 rfl
                have f4 : a.eval (.tmp 109) = .pointer (some ⟨O, 0, none⟩) := hR ⟨4, .data⟩ (by simp) rfl 109 rfl
                obtain ⟨SB, f5, s0, s1⟩ : ∃ SB, a.eval (.tmp 110) = .slice (some ⟨SB, 0, none⟩) 1 1 ∧ wq.cell? ⟨SB, 0, none⟩ = some (.slice none 0 0) ∧ wq.cell? ⟨SB, 1, none⟩ = some (.bool false) := hR ⟨5, .data⟩ (by simp) rfl 110 rfl
                obtain ⟨PB, f6, p0⟩ : ∃ PB, a.eval (.tmp 111) = .slice (some ⟨PB, 0, none⟩) 1 1 ∧ wq.cell? ⟨PB, 0, none⟩ = some (.bool false) := hR ⟨6, .data⟩ (by simp) rfl 111 rfl
                obtain ⟨NB, f8⟩ : ∃ NB, a.eval (.tmp 113) = .slice (some ⟨NB, 0, none⟩) na na := hR ⟨8, .data⟩ (by simp) rfl 113 rfl
                have f9 : a.eval (.tmp 114) = .slice (some ⟨w.heap.size, 0, none⟩) n4 n4 := hR ⟨9, .data⟩ (by simp) rfl 114 rfl
                have f10 : a.eval (.tmp 115) = .slice (some ⟨w1.heap.size, 0, none⟩) n4 n4 := hR ⟨10, .data⟩ (by simp) rfl 115 rfl
                have f11 : a.eval (.tmp 116) = .slice (some ⟨W1.heap.size, 0, none⟩) na na := hR ⟨11, .data⟩ (by simp) rfl 116 rfl
                have f12 : a.eval (.tmp 117) = .slice (some ⟨W2.heap.size, 0, none⟩) na na := hR ⟨12, .data⟩ (by simp) rfl 117 rfl
                have f13 : a.eval (.tmp 118) = .int .i64 deg := hR ⟨13, .data⟩ (by simp) rfl 118 rfl
                clear hR
                refine ⟨.agg #[.int .i64 me, .int .i64 na, .slice (some ⟨DB, 0, none⟩) 1 1, .slice (some ⟨w.heap.size, 0, none⟩) n4 n4, .slice none 0 0, .slice none 0 0, .pointer (some ⟨O, 0, none⟩), .pointer none, .int .i64 0, .int .i64 0, .slice (some ⟨W1.heap.size, 0, none⟩) na na, .slice (some ⟨SB, 0, none⟩) 1 1, .slice (some ⟨PB, 0, none⟩) 1 1, .slice none 0 0, .slice none 0 0, .slice (some ⟨w1.heap.size, 0, none⟩) n4 n4, .int .i64 deg, .slice (some ⟨W2.heap.size, 0, none⟩) na na, .int .i64 0, .slice none 0 0, .slice none 0 0, .int .u64 0, .slice none 0 0, .slice none 0 0, .slice none 0 0, .int .i64 0, .slice (some ⟨NB, 0, none⟩) na na, .string { data := #[] }, .slice none 0 0, .slice none 0 0, .slice none 0 0, .slice none 0 0, .slice none 0 0, .slice none 0 0, .slice none 0 0, .slice none 0 0, .slice none 0 0, .slice none 0 0, .slice none 0 0, .slice none 0 0, .slice none 0 0, .slice none 0 0, .slice none 0 0, .slice none 0 0, .slice none 0 0, .slice none 0 0, .slice none 0 0, .slice none 0 0, .slice none 0 0, .bool false], wq, ?_, Below.refl _ _, DB, SB, PB, _, rfl, ?_⟩
                · simp [Act.eval] at f0 f1 f3 f4 f5 f6 f8 f9 f10 f11 f12 f13
                  simp [execOp, f0, f1, f3, f4, f5, f6, f8, f9, f10, f11, f12, f13, go_sem]
                · exact ⟨rfl, rfl, rfl, rfl, rfl, rfl, rfl, rfl, rfl, rfl, rfl, rfl, d0, s0, s1, p0⟩
              · cases ho
                obtain ⟨DB, SB, PB, cs, f, hC⟩ : ∃ DB SB PB cs, a.eval (.tmp 119) = .agg cs ∧ AgC DB SB PB O na me n4 w.heap.size w1.heap.size W1.heap.size W2.heap.size v deg (Value.agg cs).cells wq := hR ⟨14, .data⟩ (by simp) rfl 119 rfl
                refine ⟨_, _, ?_, (Below.refl _ _).alloc (Nat.le_refl _) _, wq.heap.size, DB, SB, PB, rfl, hC.box 53, hbq.size⟩
                simp [Act.eval] at f
                simp [execOp, f, go_sem, Value.cells]
              · cases ho
                obtain ⟨AG, DB, SB, PB, f, hC⟩ : ∃ AG DB SB PB, a.eval (.tmp 120) = .pointer (some ⟨AG, 0, none⟩) ∧ AgIn AG DB SB PB O na me n4 w.heap.size w1.heap.size W1.heap.size W2.heap.size v deg wq ∧ w5.heap.size ≤ AG := hR ⟨15, .data⟩ (by simp) rfl 120 rfl
                refine ⟨_, wq, ?_, Below.refl _ _, AG, DB, SB, PB, rfl, hC⟩
                simp [execOp, f]
            · intro x wq hbq hx
              obtain ⟨AG, DB, SB, PB, f, hC, hAG⟩ : ∃ AG DB SB PB, x 16 = .pointer (some ⟨AG, 0, none⟩) ∧ AgIn AG DB SB PB O na me n4 w.heap.size w1.heap.size W1.heap.size W2.heap.size v deg wq ∧ w5.heap.size ≤ AG := hx 16 (by omega)
              simp only [chainAll, Act.put]
              simp
              go_wp2_with fail
              go_meet
              exact ⟨AG, DB, SB, PB, f, hC.ok, ⟨hC.aid, hC.a3, hC.a10, hC.a15, hC.a16, hC.a17, hC.f16, (HB.out.later hbq).arc, arc_at oth n4, (HB.out.later hbq).view, vw_at kn na, (HB.out.later hbq).ws, (HB.out.later hbq).rep, fun x _ => hothL x, hwtR⟩, hAG, hbq⟩
          case rest =>
          obtain ⟨AG, DB, SB, PB, rfl, hOk, hWd, hAG, hbc⟩ := hcut
          have hBc := HB.out.later hbc
          have hRPl := HB.out.rep.lt
          go_wp2_with fail
          refine (ok_wd AG DB SB PB O w.heap.size W1.heap.size w1.heap.size W2.heap.size na n4 me v 0 deg oth kn wt (arcTo oth n4) (vwTo kn na) (fun _ => .int .i64 0) wc hOk hWd h4 hna6 hme1 (by omega)).mono ?_
          rintro e w6 ⟨R, rfl, hC, hR6, h16, hrp, hkp⟩
          have hws := hkp.cells (b := w1.heap.size) (by have := HB.out.ws.lt; have := hBc.nw; omega) hBc.ws
          have hvw := hkp.cells (b := W1.heap.size) (by have := HB.out.view.lt; have := hBc.nv; omega) hBc.view
          have hbel : Below w.heap.size w w6 := by
            have h1 := hBc.sr
            have h2 := hBc.bel.size
            have h3 := HB.out.bel.size
            refine hBc.bel.trans (hkp.below (by omega) ?_)
            rintro k (rfl | rfl) <;> omega
          obtain ⟨D, hDe⟩ : ∃ D, D = wdVal deg (sumTo kn oth wt n4) := ⟨_, rfl⟩
          have HD : Hid (D = wdVal deg (sumTo kn oth wt n4)) := hDe
          rw [← hDe] at hC h16 hrp
          clear hDe
          have HX : Hid (OkCells R O v D w6 ∧ w6.cell? ⟨AG, 16, none⟩ = some (.int .i64 D) ∧ (Cells w6 W2.heap.size na fun i => if i = me then .int .i64 D else .int .i64 0) ∧ Below w.heap.size w w6) := ⟨hC, h16, hrp, hbel⟩
          clear hC h16 hrp hbel hkp hbc hAG hOk hWd hBc HB hR6 hmk hmk0 hmk1
          have hb6 : Below w.heap.size w w6 := HX.out.2.2.2
          go_wp2_with fail
          go_loopw [30, 125] (fun d x wr => ∃ k : Nat, k ≤ n4 ∧ x = .int .i64 k ∧ d = .int .i64 (sumTo kn oth wt k) ∧ wr = w6) (fun _ x _ => n4 - (intOf x).toNat)
          case atStart => exact ⟨0, Nat.zero_le _, rfl, rfl, rfl⟩
          case round =>
            obtain ⟨k, hk, rfl, rfl, rfl⟩ := hrel
            have hs := sumTo_rng (kn := kn) (oth := oth) (wt := wt) hwtR k
            by_cases hlt : k < n4
            · obtain ⟨b4, o4, rfl, hc4⟩ := i4.pos (by omega)
              have c4 := cell_later hb6 (hc4 k hlt)
              have ho4 := ho k
              have em : ((ot k : Nat) : Int) % (na : Int) = (oth k : Int) := by rw [HO.out, Int.natCast_emod]
              have hol := hothL k
              have v3 := hvw.cell (oth k * 4 + 3) (by omega)
              have u0 := hws.cell k hlt
              have e3 : vwTo kn na (oth k * 4 + 3) = .bool (kn (oth k)) := by
                simp [vwTo, show (oth k * 4 + 3) % 4 = 3 from by omega, show (oth k * 4 + 3) / 4 = oth k from by omega, hol]
              rw [e3] at v3
              clear e3 hc4
              have hwk := hwtR k
              have HS : Hid (sumTo kn oth wt (k + 1) = sumTo kn oth wt k + if kn (oth k) then 0 else wt k) := rfl
              generalize sumTo kn oth wt k = s at *
              cases hkn : kn (oth k) with
              | true =>
                rw [hkn] at v3 HS
                go_wp2
                go_roundw
                case rel => exact ⟨k + 1, by omega, by go_num, by rw [HS.out]; simp, trivial⟩
                case measure => simp [intOf]; omega
              | false =>
                rw [hkn] at v3 HS
                go_wp2
                go_roundw
                case rel => exact ⟨k + 1, by omega, by go_num, by rw [HS.out]; simp, trivial⟩
                case measure => simp [intOf]; omega
            · obtain rfl : n4 = k := by omega
              have HDE : Hid (∀ c, c = (if 1000 < sumTo kn oth wt n4 then 1000 else sumTo kn oth wt n4) → D = if deg < c then c else deg) := by
                intro c hc
                rw [HD.out, wdVal, ← hc]
              clear hlt hk hne hne' hwtR
              generalize sumTo kn oth wt n4 = s at *
              obtain ⟨W6, rfl⟩ : ∃ W6, W6 = wr := ⟨wr, rfl⟩
              go_upto_if 149 with fail
              go_cut [32] (fun d wx => d = .int .i64 (if 1000 < s then 1000 else s) ∧ wx = W6)
              case first =>
                go_wp2
                all_goals
                  go_meet
                  refine ⟨?_, rfl⟩
                  first | rw [if_pos (by omega)] | rw [if_neg (by omega)]
              case rest =>
              obtain ⟨rfl, rfl⟩ := hcut
              obtain ⟨c, hc⟩ : ∃ c, c = if 1000 < s then 1000 else s := ⟨_, rfl⟩
              have HDc := HDE.out c hc
              rw [← hc]
              clear hc HDE
              go_upto_if 152 with fail
              go_cut [32] (fun d wx => d = .int .i64 D ∧ wx = wc)
              case first =>
                have HH : Hid (D = if deg < c then c else deg) := HDc
                clear HDc
                go_wp2
                all_goals
                  go_meet
                  rw [HH.out]
                  refine ⟨?_, rfl⟩
                  split <;> first | rfl | (congr 1; omega) | omega
              case rest =>
              obtain ⟨rfl, rfl⟩ := hcut
              clear HDc hws hvw
              obtain ⟨hC, h16, hrp, hbel⟩ := HX.out
              have c0 := hC.c0
              have c2 := hC.c2
              have c3 := hC.c3
              have c4 := hC.c4
              have c5 := hC.c5
              have rme := hrp.cell me hme1
              simp only [if_true] at rme
              clear hC
              go_wp2_with fail
              go_loopw [33] (fun x wr => ∃ j : Nat, j ≤ na ∧ x = .int .i64 j ∧ wr = wc) (fun x _ => na - (intOf x).toNat)
              case atStart => exact ⟨0, Nat.zero_le _, rfl, rfl⟩
              case round =>
                obtain ⟨j, hj, rfl, rfl⟩ := hrel
                by_cases hlj : j < na
                · have rj := hrp.cell j hlj
                  by_cases hjm : j = me
                  · subst hjm
                    go_wp2
                    go_roundw
                    case rel => exact ⟨j + 1, by omega, by go_num, trivial⟩
                    case measure => simp [intOf]; omega
                  · simp only [hjm, if_false] at rj
                    go_wp2
                    go_roundw
                    case rel => exact ⟨j + 1, by omega, by go_num, trivial⟩
                    case measure => simp [intOf]; omega
                · obtain rfl : na = j := by omega
                  have he := eql39 O
                  go_wp2
                  go_ret
                  exact ⟨rfl, hbel⟩
end Go.Proofs.Ybulkclmc
