import Derived.Test.YbulkclmcWd
import Derived.Deep.OwnRows
namespace Go.Proofs.Ybulkclmc
open Go.RowKit

/-- the agent that zzs4370aag hands back -/
def aagV (x : Int) (n : Nat) : Nat := ((IntKind.u64.wrap x).tmod (n : Int)).toNat

theorem u64_nonneg (x : Int) : 0 ≤ IntKind.u64.wrap x := by
  simp [IntKind.wrap, IntKind.signed, IntKind.bits]
  exact Int.emod_nonneg _ (by decide)

theorem aagV_lt (x : Int) {n : Nat} (h : 0 < n) : aagV x n < n := by
  unfold aagV
  have h0 := u64_nonneg x
  have h1 := Int.tmod_nonneg (n : Int) h0
  have h2 := Int.tmod_lt_of_pos (IntKind.u64.wrap x) (b := (n : Int)) (by omega)
  omega

theorem aagV_cast (x : Int) {n : Nat} (h : 0 < n) (h2 : n ≤ 1024) : wrap64 ((IntKind.u64.wrap x).tmod (n : Int)) = (aagV x n : Int) := by
  have hl := aagV_lt x h
  have e : (IntKind.u64.wrap x).tmod (n : Int) = (aagV x n : Int) := by
    unfold aagV
    have h0 := u64_nonneg x
    have h1 := Int.tmod_nonneg (n : Int) h0
    omega
  rw [e]
  unfold wrap64; omega

set_option maxRecDepth 100000 in
theorem aag_any (x : Int) (n : Nat) (w : World) (h0 : 0 < n) (h1 : n ≤ 1024) :
    Calls Yba.prog 7 #[.int .i64 x, .int .i64 n] w fun e w' => e = .returned (.int .i64 (aagV x n)) ∧ w' = w := by
  have e : Hid (wrap64 ((IntKind.u64.wrap x).tmod (n : Int)) = (aagV x n : Int)) := aagV_cast x h0 h1
  go_enter Yba.func7, Yba.ntmps7
  go_wp2
  go_ret
  exact ⟨by rw [← e.out]; rfl, rfl⟩


/-- a left-hand side: a slice of assignments, three cells each -/
structure Lhs where
  p : Option Addr
  n : Nat
  c : Nat
  f : Nat → Int

def Lhs.val (x : Lhs) : Value := .slice x.p x.n x.c

/-- its cells stand, in a block from lo on -/
structure LhsOk (lo : Nat) (w : World) (x : Lhs) : Prop where
  len : x.n ≤ 1024
  pos : 0 < x.n → ∃ b, x.p = some ⟨b, 0, none⟩ ∧ lo ≤ b ∧ ∀ i, i < x.n * 3 → w.cell? ⟨b, i, none⟩ = some (.int .i64 (x.f i))

theorem LhsOk.keeps {lo : Nat} {S : Nat → Prop} {w w' : World} {x : Lhs} (h : LhsOk lo w x) (k : Keeps S w w') (hS : ∀ b, lo ≤ b → ¬ S b) : LhsOk lo w' x :=
  ⟨h.len, fun hn => by obtain ⟨b, e, hb, hc⟩ := h.pos hn; exact ⟨b, e, hb, fun i hi => k.cell (hS b hb) (hc i hi)⟩⟩

theorem LhsOk.later {lo : Nat} {w w' : World} {x : Lhs} (h : LhsOk lo w x) (k : Below w.heap.size w w') : LhsOk lo w' x :=
  h.keeps (S := fun _ => False) (Keeps.of_below k) (fun _ _ h => h)

theorem LhsOk.mono {lo lo' : Nat} {w : World} {x : Lhs} (h : LhsOk lo w x) (hl : lo' ≤ lo) : LhsOk lo' w x :=
  ⟨h.len, fun hn => by obtain ⟨b, e, hb, hc⟩ := h.pos hn; exact ⟨b, e, by omega, hc⟩⟩

/-- does one of the first k assignments name ag with another value than v -/
def disTo (f : Nat → Int) (ag v : Int) : Nat → Bool
  | 0 => false
  | k + 1 => disTo f ag v k || (decide (f (k * 3) = ag) && decide (f (k * 3 + 1) ≠ v))

def Lhs.dis (x : Lhs) (ag v : Int) : Bool := disTo x.f ag v x.n

/-- what stands of an array of assignments behind k rounds -/
def lhsTo (f : Nat → Int) (na k i : Nat) : Int := if i / 3 < k then (if i % 3 = 0 then (aagV (f i) na : Int) else f i) else 0

theorem Yba.info67 : (Yba.prog.info? 67).map (fun i => (i.zero, i.size, i.bytes)) = some (some (.agg #[.int .i64 0, .int .i64 0, .int .i64 0]), 3, 24) := by kernel_rfl

theorem lhs_step {w : World} {b m na : Nat} {f : Nat → Int} {k : Nat} (h : Cells w b (m * 3) (fun i => .int .i64 (lhsTo f na k i))) (hk : k < m) :
    Cells (((w.setCell ⟨b, k * 3, none⟩ (.int .i64 (aagV (f (k * 3)) na))).setCell ⟨b, k * 3 + 1, none⟩ (.int .i64 (f (k * 3 + 1)))).setCell ⟨b, k * 3 + 2, none⟩ (.int .i64 (f (k * 3 + 2)))) b (m * 3) (fun i => .int .i64 (lhsTo f na (k + 1) i)) := by
  refine (((h.set (j := k * 3) (by omega) _).set (j := k * 3 + 1) (by omega) _).set (j := k * 3 + 2) (by omega) _).congr fun i hi => ?_
  by_cases e2 : i = k * 3 + 2
  · subst e2
    simp [lhsTo, show (k * 3 + 2) % 3 = 2 from by omega, show (k * 3 + 2) / 3 = k from by omega]
  by_cases e1 : i = k * 3 + 1
  · subst e1
    simp [lhsTo, show (k * 3 + 1) % 3 = 1 from by omega, show (k * 3 + 1) / 3 = k from by omega]
  by_cases e0 : i = k * 3
  · subst e0
    simp [lhsTo, show k * 3 / 3 = k from by omega]
  have e4 : (i / 3 < k + 1) ↔ (i / 3 < k) := by omega
  simp only [e0, e1, e2, if_false, lhsTo, e4]

/-- a slice of assignments that came in -/
structure In3 (w : World) (p : Option Addr) (n : Nat) (f : Nat → Int) : Prop where
  nil : p = none → n = 0
  pos : 0 < n → ∃ b o, p = some ⟨b, o, none⟩ ∧ ∀ i, i < n → w.cell? ⟨b, o + i * 3, none⟩ = some (.int .i64 (f (i * 3))) ∧ w.cell? ⟨b, o + i * 3 + 1, none⟩ = some (.int .i64 (f (i * 3 + 1))) ∧ w.cell? ⟨b, o + i * 3 + 2, none⟩ = some (.int .i64 (f (i * 3 + 2)))

theorem In3.later {w0 w : World} {p : Option Addr} {n : Nat} {f : Nat → Int} (h : In3 w0 p n f) (hb : Below w0.heap.size w0 w) : In3 w p n f :=
  ⟨h.nil, fun hn => by obtain ⟨b, o, e, hc⟩ := h.pos hn; exact ⟨b, o, e, fun i hi => ⟨cell_later hb (hc i hi).1, cell_later hb (hc i hi).2.1, cell_later hb (hc i hi).2.2⟩⟩⟩

def AlhsPost (w : World) (n : Nat) (e : Ending) (w' : World) : Prop := ∃ x : Lhs, e = .returned x.val ∧ x.n = n ∧ LhsOk w.heap.size w' x ∧ Below w.heap.size w w'

set_option maxRecDepth 100000 in
set_option maxHeartbeats 400000 in
theorem alhs_any (p : Option Addr) (n c na : Nat) (f : Nat → Int) (w : World) (hI : In3 w p n f) (hn : n ≤ 1024) (h0 : 0 < na) (h1 : na ≤ 1024) :
    Calls Yba.prog 8 #[.slice p n c, .int .i64 na] w fun e w' => AlhsPost w n e w' := by
  obtain ⟨i67, hi67, hz0, hz1, hz2⟩ := info_parts Yba.info67
  have q27 : ∀ (w : World) (a : Option Addr) (n c : Nat), (binOp .eql 27 (.slice a n c) (.slice none 0 0)).run Yba.prog w = .ok (.bool a.isNone) w := fun w a n c => Lib.run_eql_slice_nil w 27 26 a n c 0 0 Yba.underlying27
  cases p with
  | none =>
    obtain rfl := hI.nil rfl
    go_enter Yba.func8, Yba.ntmps8
    go_wp2
    go_ret
    exact ⟨⟨none, 0, 0, fun _ => 0⟩, rfl, rfl, ⟨Nat.zero_le _, fun h => by cases h⟩, Below.refl _ _⟩
  | some a =>
    go_enter Yba.func8, Yba.ntmps8
    go_wp2_with (first | (at_make; refine wpList_make_full _ rfl (.tmp 11) (.tmp 11) 42 rfl w.heap.size 67 i67 (.agg #[.int .i64 0, .int .i64 0, .int .i64 0]) 3 Yba.underlying42 hi67 hz0 hz1 .i64 .i64 _ _ n rfl rfl rfl rfl (by rw [hz2]; omega) (by unfold maxLen; omega) (Nat.le_refl _) ?_; intro w1 hown1 hgrow1; have hb1 := (Below.refl w.heap.size w).grown hgrow1 (Nat.le_refl _) (by simp)) | fail)
    have hA := Cells.made hown1
    have hA0 : Cells w1 w.heap.size (n * 3) (fun i => .int .i64 (lhsTo f na 0 i)) := by
      refine hA.congr fun i hi => ?_
      rw [made_get (by omega)]
      have : i % 3 = 0 ∨ i % 3 = 1 ∨ i % 3 = 2 := by omega
      rcases this with e | e | e <;> simp [lhsTo, Value.cells, e]
    clear hown1 hgrow1 hA
    go_loopw [15] (fun x wr => ∃ k : Nat, k ≤ n ∧ x = .int .i64 k ∧ Cells wr w.heap.size (n * 3) (fun i => .int .i64 (lhsTo f na k i)) ∧ Below w.heap.size w wr) (fun x _ => n - (intOf x).toNat)
    case atStart => exact ⟨0, Nat.zero_le _, rfl, hA0, hb1⟩
    case round =>
      obtain ⟨k, hk, rfl, hC, hb⟩ := hrel
      clear hA0 hb1
      by_cases hlt : k < n
      · obtain ⟨b, o, e, hc⟩ := hI.pos (by omega)
        cases e
        have c0 := cell_later hb (hc k hlt).1
        have c1 := cell_later hb (hc k hlt).2.1
        have c2 := cell_later hb (hc k hlt).2.2
        have hbl : b < w.heap.size := World.block_lt_of_cell? _ _ (hc k hlt).1
        clear hc
        go_upto_region 7 with fail
        have hlT : w.heap.size < wr.heap.size := hC.lt
        have hCW := hC.alloc (Obj.cells #[Value.int IntKind.i64 (f (k * 3)), Value.int IntKind.i64 (f (k * 3 + 1)), Value.int IntKind.i64 (f (k * 3 + 2))] 26)
        have hbW := hb.alloc hb.size (Obj.cells #[Value.int IntKind.i64 (f (k * 3)), Value.int IntKind.i64 (f (k * 3 + 1)), Value.int IntKind.i64 (f (k * 3 + 2))] 26)
        have t0 : (wr.alloc (Obj.cells #[Value.int IntKind.i64 (f (k * 3)), Value.int IntKind.i64 (f (k * 3 + 1)), Value.int IntKind.i64 (f (k * 3 + 2))] 26)).cell? ⟨wr.heap.size, 0, none⟩ = some (.int .i64 (f (k * 3))) := by go_simp
        have t1 : (wr.alloc (Obj.cells #[Value.int IntKind.i64 (f (k * 3)), Value.int IntKind.i64 (f (k * 3 + 1)), Value.int IntKind.i64 (f (k * 3 + 2))] 26)).cell? ⟨wr.heap.size, 1, none⟩ = some (.int .i64 (f (k * 3 + 1))) := by go_simp
        have t2 : (wr.alloc (Obj.cells #[Value.int IntKind.i64 (f (k * 3)), Value.int IntKind.i64 (f (k * 3 + 1)), Value.int IntKind.i64 (f (k * 3 + 2))] 26)).cell? ⟨wr.heap.size, 2, none⟩ = some (.int .i64 (f (k * 3 + 2))) := by go_simp
        generalize wr.alloc (Obj.cells #[Value.int IntKind.i64 (f (k * 3)), Value.int IntKind.i64 (f (k * 3 + 1)), Value.int IntKind.i64 (f (k * 3 + 2))] 26) = W at *
        clear c0 c1 c2 hC hb hI
        have hS := lhs_step hCW hlt
        have g0 := hCW.cell (k * 3) (by omega)
        have g1 := hCW.cell (k * 3 + 1) (by omega)
        have g2 := hCW.cell (k * 3 + 2) (by omega)
        have r0 := hCW.free (k * 3) (by omega)
        have r1 := hCW.free (k * 3 + 1) (by omega)
        have r2 := hCW.free (k * 3 + 2) (by omega)
        have HS : Hid (Cells (((W.setCell ⟨w.heap.size, k * 3, none⟩ (.int .i64 (aagV (f (k * 3)) na))).setCell ⟨w.heap.size, k * 3 + 1, none⟩ (.int .i64 (f (k * 3 + 1)))).setCell ⟨w.heap.size, k * 3 + 2, none⟩ (.int .i64 (f (k * 3 + 2)))) w.heap.size (n * 3) (fun i => .int .i64 (lhsTo f na (k + 1) i)) ∧ Below w.heap.size w W) := ⟨hS, hbW⟩
        clear hS hbW hCW
        have hnT : ¬ wr.heap.size = w.heap.size := by omega
        have hnT' : ¬ w.heap.size = wr.heap.size := by omega
        have hkI : (0 : Int) ≤ (k : Int) := by omega
        have hkN : (k : Int) < (n : Int) := by omega
        go_region_held3 (fun w' => w'.cell? ⟨wr.heap.size, 0, none⟩ = some (.int .i64 (f (k * 3))) ∧ w'.cell? ⟨wr.heap.size, 1, none⟩ = some (.int .i64 (f (k * 3 + 1))) ∧ w'.cell? ⟨wr.heap.size, 2, none⟩ = some (.int .i64 (f (k * 3 + 2)))) (go_keep) (first | (go_at_call 7; refine (aag_any _ na _ h0 h1).mono ?_; rintro e wq ⟨rfl, rfl⟩))
        go_wp2
        go_roundw
        case rel =>
          exact ⟨k + 1, by omega, by go_num, HS.out.1.drew, (((HS.out.2.setCell (Nat.le_refl _) _).setCell (Nat.le_refl _) _).setCell (Nat.le_refl _) _).drew⟩
        case measure => simp [intOf]; omega
      · obtain rfl : n = k := by omega
        go_wp2
        go_ret
        exact ⟨⟨some ⟨w.heap.size, 0, none⟩, n, n, lhsTo f na n⟩, rfl, rfl, ⟨hn, fun _ => ⟨_, rfl, Nat.le_refl _, hC.cell⟩⟩, hb⟩

theorem disTo_mono {f : Nat → Int} {ag v : Int} {k : Nat} (h : disTo f ag v k = true) : ∀ n, k ≤ n → disTo f ag v n = true
  | 0, hn => by obtain rfl : k = 0 := by omega
                exact h
  | n + 1, hn => by
    by_cases e : k = n + 1
    · subst e; exact h
    · simp only [disTo, disTo_mono h n (by omega), Bool.true_or]

set_option maxRecDepth 100000 in
theorem adis_any (lo : Nat) (x : Lhs) (ag v : Int) (w : World) (hx : LhsOk lo w x) :
    Calls Yba.prog 10 #[x.val, .int .i64 ag, .int .i64 v] w fun e w' => e = .returned (.bool (x.dis ag v)) ∧ Below w.heap.size w w' := by
  obtain ⟨p, n, c, f⟩ := x
  have hn : n ≤ 1024 := hx.len
  simp only [Lhs.val, Lhs.dis]
  go_enter Yba.func10, Yba.ntmps10
  go_wp2_with fail
  go_loopw [11] (fun x wr => ∃ k : Nat, k ≤ n ∧ x = .int .i64 k ∧ disTo f ag v k = false ∧ Below w.heap.size w wr) (fun x _ => n - (intOf x).toNat)
  case atStart => exact ⟨0, Nat.zero_le _, rfl, rfl, Below.refl _ _⟩
  case round =>
    obtain ⟨k, hk, rfl, hd, hb⟩ := hrel
    by_cases hlt : k < n
    · obtain ⟨b, e, -, hc⟩ := hx.pos (show 0 < n by omega)
      cases e
      have c0 := cell_later hb (hc (k * 3) (show _ < n * 3 by omega))
      have c1 := cell_later hb (hc (k * 3 + 1) (show _ < n * 3 by omega))
      have c2 := cell_later hb (hc (k * 3 + 2) (show _ < n * 3 by omega))
      have hs : disTo f ag v (k + 1) = (decide (f (k * 3) = ag) && decide (f (k * 3 + 1) ≠ v)) := by simp only [disTo, hd, Bool.false_or]
      have HS : Hid (disTo f ag v (k + 1) = (decide (f (k * 3) = ag) && decide (f (k * 3 + 1) ≠ v))) := hs
      clear hs hc
      by_cases h1 : f (k * 3) = ag
      · by_cases h2 : f (k * 3 + 1) = v
        · go_wp2
          go_roundw
          case rel => exact ⟨k + 1, by omega, by go_num, by rw [HS.out, h2]; simp, hb.alloc hb.size _⟩
          case measure => simp [intOf]; omega
        · go_wp2
          go_ret
          exact ⟨by rw [disTo_mono (k := k + 1) (by rw [HS.out]; simp [h1, h2]) n (by omega)]; rfl, hb.alloc hb.size _⟩
      · go_wp2
        go_roundw
        case rel => exact ⟨k + 1, by omega, by go_num, by rw [HS.out]; simp [h1], hb.alloc hb.size _⟩
        case measure => simp [intOf]; omega
    · obtain rfl : n = k := by omega
      go_wp2
      go_ret
      exact ⟨by rw [hd]; rfl, hb⟩

set_option maxRecDepth 100000 in
theorem clos_any (AS : Nat) (ag v : Int) (x0 x1 x2 : Int) (w : World) (h0 : w.cell? ⟨AS, 0, none⟩ = some (.int .i64 ag)) (h1 : w.cell? ⟨AS, 1, none⟩ = some (.int .i64 v)) :
    Calls Yba.prog 19 #[.agg #[.int .i64 x0, .int .i64 x1, .int .i64 x2], .pointer (some ⟨AS, 0, none⟩)] w fun e w' => e = .returned (.bool (decide (x0 = ag) && decide (x1 ≠ v))) ∧ Below w.heap.size w w' := by
  have hl : AS < w.heap.size := World.block_lt_of_cell? _ _ h0
  go_enter Yba.func19, Yba.ntmps19
  by_cases e0 : x0 = ag
  · by_cases e1 : x1 = v
    · go_wp2
      go_ret
      exact ⟨by simp [e0, e1], (Below.refl _ _).alloc (Nat.le_refl _) _⟩
    · go_wp2
      go_ret
      exact ⟨by simp [e0, e1], (Below.refl _ _).alloc (Nat.le_refl _) _⟩
  · go_wp2
    go_ret
    exact ⟨by simp [e0], (Below.refl _ _).alloc (Nat.le_refl _) _⟩

set_option maxRecDepth 100000 in
theorem idx_any (lo AS : Nat) (x : Lhs) (ag v : Int) (w : World) (hx : LhsOk lo w x) (h0 : w.cell? ⟨AS, 0, none⟩ = some (.int .i64 ag)) (h1 : w.cell? ⟨AS, 1, none⟩ = some (.int .i64 v)) :
    Calls Yba.prog 33 #[x.val, .func (.func 19) #[] #[.pointer (some ⟨AS, 0, none⟩)]] w fun e w' => (∃ k : Int, -1 ≤ k ∧ k ≤ 1024 ∧ e = .returned (.int .i64 k) ∧ (decide (0 ≤ k)) = x.dis ag v) ∧ Below w.heap.size w w' := by
  obtain ⟨p, n, c, f⟩ := x
  have hn : n ≤ 1024 := hx.len
  simp only [Lhs.val, Lhs.dis]
  go_enter Yba.func33, Yba.ntmps33
  go_wp2_with fail
  go_loopw [8] (fun x wr => ∃ k : Nat, k ≤ n ∧ x = .int .i64 k ∧ disTo f ag v k = false ∧ Below w.heap.size w wr) (fun x _ => n - (intOf x).toNat)
  case atStart => exact ⟨0, Nat.zero_le _, rfl, rfl, Below.refl _ _⟩
  case round =>
    obtain ⟨k, hk, rfl, hd, hb⟩ := hrel
    by_cases hlt : k < n
    · obtain ⟨b, e, -, hc⟩ := hx.pos (show 0 < n by omega)
      cases e
      have c0 := cell_later hb (hc (k * 3) (show _ < n * 3 by omega))
      have c1 := cell_later hb (hc (k * 3 + 1) (show _ < n * 3 by omega))
      have c2 := cell_later hb (hc (k * 3 + 2) (show _ < n * 3 by omega))
      have hs : disTo f ag v (k + 1) = (decide (f (k * 3) = ag) && decide (f (k * 3 + 1) ≠ v)) := by simp only [disTo, hd, Bool.false_or]
      have HS : Hid (disTo f ag v (k + 1) = (decide (f (k * 3) = ag) && decide (f (k * 3 + 1) ≠ v))) := hs
      clear hs hc
      go_wp2_with fail
      refine (clos_any AS ag v (f (k * 3)) (f (k * 3 + 1)) (f (k * 3 + 2)) wr (cell_later hb h0) (cell_later hb h1)).mono ?_
      rintro e w1 ⟨rfl, hb1⟩
      rw [← HS.out]
      have hbb : Below w.heap.size w w1 := hb.trans (hb1.mono hb.size)
      cases hq : disTo f ag v (k + 1) with
      | true =>
        go_wp2
        go_ret
        exact ⟨⟨(k : Int), by omega, by omega, rfl, by rw [disTo_mono hq n (by omega)]; simp⟩, hbb⟩
      | false =>
        go_wp2
        go_roundw
        case rel => exact ⟨k + 1, by omega, by go_num, hq, hbb⟩
        case measure => simp [intOf]; omega
    · obtain rfl : n = k := by omega
      go_wp2
      go_ret
      exact ⟨⟨-1, by omega, by omega, rfl, by rw [hd]; rfl⟩, hb⟩

set_option maxRecDepth 100000 in
theorem cont_any (lo AS : Nat) (x : Lhs) (ag v : Int) (w : World) (hx : LhsOk lo w x) (h0 : w.cell? ⟨AS, 0, none⟩ = some (.int .i64 ag)) (h1 : w.cell? ⟨AS, 1, none⟩ = some (.int .i64 v)) :
    Calls Yba.prog 18 #[x.val, .func (.func 19) #[] #[.pointer (some ⟨AS, 0, none⟩)]] w fun e w' => e = .returned (.bool (x.dis ag v)) ∧ Below w.heap.size w w' := by
  go_enter Yba.func18, Yba.ntmps18
  go_wp2_with fail
  refine (idx_any lo AS x ag v w hx h0 h1).mono ?_
  rintro e w1 ⟨⟨k, hk1, hk2, rfl, hd⟩, hb⟩
  have HD : Hid (decide (0 ≤ k) = x.dis ag v) := hd
  clear hd
  go_wp2
  go_ret
  exact ⟨by rw [← HD.out]; rfl, hb⟩

set_option maxRecDepth 100000 in
theorem disg_any (lo AS : Nat) (x : Lhs) (ag v : Int) (w : World) (hx : LhsOk lo w x) (h0 : w.cell? ⟨AS, 0, none⟩ = some (.int .i64 ag)) (h1 : w.cell? ⟨AS, 1, none⟩ = some (.int .i64 v)) :
    Calls Yba.prog 17 #[x.val, .pointer (some ⟨AS, 0, none⟩)] w fun e w' => e = .returned (.bool (x.dis ag v)) ∧ Below w.heap.size w w' := by
  go_enter Yba.func17, Yba.ntmps17
  go_wp2_with fail
  refine (cont_any lo AS x ag v w hx h0 h1).mono ?_
  rintro e w1 ⟨rfl, hb⟩
  go_wp2
  go_ret
  exact ⟨rfl, hb⟩
end Go.Proofs.Ybulkclmc
