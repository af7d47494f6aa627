import Derived.Test.YbulkclmcBokP
import Derived.Test.YbulkclmcSortA
namespace Go.Proofs.Ybulkclmc
open Go.RowKit

/-- the order that an agent holds, as rank reads it -/
structure RkIn (AG O P na : Nat) (rk : Nat → Nat) (w : World) : Prop where
  a6 : w.cell? ⟨AG, 6, none⟩ = some (.pointer (some ⟨O, 0, none⟩))
  o3 : w.cell? ⟨O, 3, none⟩ = some (.slice (some ⟨P, 0, none⟩) na na)
  p : ∀ k, k < na → w.cell? ⟨P, k, none⟩ = some (.int .i32 (rk k))
  lt : ∀ k, k < na → rk k < na

theorem RkIn.keeps {S : Nat → Prop} {AG O P na : Nat} {rk : Nat → Nat} {w w' : World} (h : RkIn AG O P na rk w) (k : Keeps S w w') (h1 : ¬ S AG) (h2 : ¬ S O) (h3 : ¬ S P) : RkIn AG O P na rk w' :=
  ⟨k.cell h1 h.a6, k.cell h2 h.o3, fun j hj => k.cell h3 (h.p j hj), h.lt⟩

theorem RkIn.later {AG O P na : Nat} {rk : Nat → Nat} {w w' : World} (h : RkIn AG O P na rk w) (hb : Below w.heap.size w w') : RkIn AG O P na rk w' :=
  h.keeps (S := fun _ => False) (Keeps.of_below hb) (fun h => h) (fun h => h) (fun h => h)

set_option maxRecDepth 100000 in
theorem rank_any (AG O P na k : Nat) (rk : Nat → Nat) (w : World) (hI : RkIn AG O P na rk w) (hk : k < na) (hna : na ≤ 6) :
    Calls Yba.prog 37 #[.pointer (some ⟨AG, 0, none⟩), .int .i64 k] w fun e w' => e = .returned (.int .i64 (rk k)) ∧ w' = w := by
  have a6 := hI.a6
  have o3 := hI.o3
  have p := hI.p k hk
  have hl := hI.lt k hk
  generalize rk k = r at *
  clear hI
  have hkI : (0 : Int) ≤ (k : Int) := by omega
  have hkN : (k : Int) < (na : Int) := by omega
  go_enter Yba.func37, Yba.ntmps37
  go_wp2
  go_ret
  exact ⟨by go_num, rfl⟩

theorem bl_then {W X w1 : World} (h : Below X.heap.size X w1) (k : Below W.heap.size W X) : Below W.heap.size W w1 := k.trans (h.mono k.size)
theorem bl_new {W X : World} (k : Below W.heap.size W X) (o : Obj) : Below W.heap.size W (X.alloc o) := k.alloc k.size o
theorem bl_drewN {B : Nat} {a w : World} (h : Below B a w) (q : Nat) : Below B a (w.drewN q) := ⟨h.os, h.tape, h.output, h.size, h.block⟩

set_option maxRecDepth 100000 in
set_option maxHeartbeats 1000000 in
theorem less_any (AG O P na BX : Nat) (rk : Nat → Nat) (x y : As) (w : World) (hI : RkIn AG O P na rk w) (hb : w.cell? ⟨BX, 0, none⟩ = some (.pointer (some ⟨AG, 0, none⟩))) (hx : x.k < na) (hy : y.k < na) (hna : na ≤ 6) :
    Calls Yba.prog 36 #[x.agg, y.agg, .pointer (some ⟨BX, 0, none⟩)] w fun e w' => e = .returned (.int .i64 ((rk x.k : Int) - (rk y.k : Int))) ∧ Below w.heap.size w w' := by
  obtain ⟨k1, v1, t1⟩ := x
  obtain ⟨k2, v2, t2⟩ := y
  simp only [As.agg]
  have l1 := hI.lt k1 hx
  have l2 := hI.lt k2 hy
  have hBl : BX < w.heap.size := World.block_lt_of_cell? _ _ hb
  go_enter Yba.func36, Yba.ntmps36
  go_upto_region 1 with fail
  have hb2 : Below w.heap.size w ((w.alloc (.cells #[.int .i64 k1, .int .i64 v1, .int .i64 t1] 67)).alloc (.cells #[.int .i64 k2, .int .i64 v2, .int .i64 t2] 67)) := bl_new (bl_new (Below.refl _ _) _) _
  have hI2 := hI.later hb2
  have c0 : ((w.alloc (.cells #[.int .i64 k1, .int .i64 v1, .int .i64 t1] 67)).alloc (.cells #[.int .i64 k2, .int .i64 v2, .int .i64 t2] 67)).cell? ⟨w.heap.size, 0, none⟩ = some (.int .i64 k1) := by go_simp
  have c1 : ((w.alloc (.cells #[.int .i64 k1, .int .i64 v1, .int .i64 t1] 67)).alloc (.cells #[.int .i64 k2, .int .i64 v2, .int .i64 t2] 67)).cell? ⟨w.heap.size + 1, 0, none⟩ = some (.int .i64 k2) := by go_simp
  have c2 := cell_later hb2 hb
  generalize (w.alloc (.cells #[.int .i64 k1, .int .i64 v1, .int .i64 t1] 67)).alloc (.cells #[.int .i64 k2, .int .i64 v2, .int .i64 t2] 67) = W at *
  clear hI hb
  have hx' : k1 < na := hx
  have hy' : k2 < na := hy
  have hw : IntKind.i64.wrap ((rk k1 : Int) - (rk k2 : Int)) = (rk k1 : Int) - (rk k2 : Int) := by
    simp [IntKind.wrap, IntKind.signed, IntKind.bits]; omega
  go_region_held3 (fun w' => w'.cell? ⟨w.heap.size, 0, none⟩ = some (.int .i64 k1) ∧ w'.cell? ⟨w.heap.size + 1, 0, none⟩ = some (.int .i64 k2) ∧ w'.cell? ⟨BX, 0, none⟩ = some (.pointer (some ⟨AG, 0, none⟩))) (go_keep) (first | (go_at_call 37; refine (rank_any AG O P na _ rk _ (hI2.later ?_) ?_ hna).mono ?_; (repeat (first | refine Below.drew ?_ | refine bl_drewN ?_ _ | exact Below.refl _ _)); assumption; rintro e wq ⟨rfl, rfl⟩))
  go_wp2
  go_ret
  exact ⟨rfl, hb2.drew⟩

def Same (g g' : Nat → As) (n : Nat) : Prop := (∀ i, i < n → ∃ j, j < n ∧ g' j = g i) ∧ ∀ j, j < n → ∃ i, i < n ∧ g i = g' j
theorem Same.refl (g : Nat → As) (n : Nat) : Same g g n := ⟨fun i hi => ⟨i, hi, rfl⟩, fun i hi => ⟨i, hi, rfl⟩⟩
theorem Same.trans {f g h : Nat → As} {n : Nat} (a : Same f g n) (b : Same g h n) : Same f h n := by
  refine ⟨fun i hi => ?_, fun j hj => ?_⟩
  · obtain ⟨j, hj, e⟩ := a.1 i hi
    obtain ⟨l, hl, e2⟩ := b.1 j hj
    exact ⟨l, hl, e2.trans e⟩
  · obtain ⟨i, hi, e⟩ := b.2 j hj
    obtain ⟨l, hl, e2⟩ := a.2 i hi
    exact ⟨l, hl, e2.trans e⟩

/-- the places j and j + 1 changed -/
def sw (g : Nat → As) (j : Nat) : Nat → As := put (put g (j + 1) (g j)) j (g (j + 1))
theorem sw_a (g : Nat → As) (j : Nat) : sw g j j = g (j + 1) := by simp [sw, put]
theorem sw_b (g : Nat → As) (j : Nat) : sw g j (j + 1) = g j := by simp [sw, put]
theorem sw_c (g : Nat → As) (j : Nat) {i : Nat} (h1 : ¬ i = j) (h2 : ¬ i = j + 1) : sw g j i = g i := by simp [sw, put, h1, h2]

theorem Same.sw (g : Nat → As) {j n : Nat} (h : j + 1 < n) : Same g (Ybulkclmc.sw g j) n := by
  refine ⟨fun i hi => ?_, fun i hi => ?_⟩
  · by_cases e1 : i = j
    · exact ⟨j + 1, h, by rw [sw_b, e1]⟩
    · by_cases e2 : i = j + 1
      · exact ⟨j, by omega, by rw [sw_a, e2]⟩
      · exact ⟨i, hi, sw_c g j e1 e2⟩
  · by_cases e1 : i = j
    · exact ⟨j + 1, h, by rw [e1, sw_a]⟩
    · by_cases e2 : i = j + 1
      · exact ⟨j, by omega, by rw [e2, sw_b]⟩
      · exact ⟨i, hi, (sw_c g j e1 e2).symm⟩

structure LtD (rk : Nat → Nat) (na : Nat) (g : Nat → As) (n : Nat) : Prop where
  lt : ∀ i, i < n → (g i).k < na
  inj : ∀ i j, i < n → j < n → rk (g i).k = rk (g j).k → i = j

theorem LtD.sw {rk : Nat → Nat} {na n j : Nat} {g : Nat → As} (h : LtD rk na g n) (hj : j + 1 < n) : LtD rk na (Ybulkclmc.sw g j) n := by
  have hs : ∀ i, i < n → ∃ i', i' < n ∧ Ybulkclmc.sw g j i = g i' ∧ ((i = j ∧ i' = j + 1) ∨ (i = j + 1 ∧ i' = j) ∨ (¬ i = j ∧ ¬ i = j + 1 ∧ i' = i)) := fun i hi => by
    by_cases e1 : i = j
    · exact ⟨j + 1, hj, by rw [e1, sw_a], Or.inl ⟨e1, rfl⟩⟩
    · by_cases e2 : i = j + 1
      · exact ⟨j, by omega, by rw [e2, sw_b], Or.inr (Or.inl ⟨e2, rfl⟩)⟩
      · exact ⟨i, hi, sw_c g j e1 e2, Or.inr (Or.inr ⟨e1, e2, rfl⟩)⟩
  refine ⟨fun i hi => ?_, fun a b ha hb e => ?_⟩
  · obtain ⟨i', hi', e, _⟩ := hs i hi
    rw [e]; exact h.lt i' hi'
  · obtain ⟨a', ha', e1, q1⟩ := hs a ha
    obtain ⟨b', hb', e2, q2⟩ := hs b hb
    rw [e1, e2] at e
    have := h.inj a' b' ha' hb' e
    omega

structure InsI (rk : Nat → Nat) (g : Nat → As) (i j : Nat) : Prop where
  rest : ∀ a b, a < b → b ≤ i → ¬ a = j → ¬ b = j → rk (g a).k < rk (g b).k
  at_ : ∀ b, j < b → b ≤ i → rk (g j).k < rk (g b).k

theorem InsI.start {rk : Nat → Nat} {g : Nat → As} {i : Nat} (h : SortedTo rk g i) : InsI rk g i i :=
  ⟨fun a b h1 h2 h3 h4 => h a b h1 (by omega), fun b h1 h2 => by omega⟩

theorem InsI.step {rk : Nat → Nat} {g : Nat → As} {i j : Nat} (h : InsI rk g i (j + 1)) (hl : rk (g (j + 1)).k < rk (g j).k) : InsI rk (sw g j) i j := by
  refine ⟨fun a b h1 h2 h3 h4 => ?_, fun b h1 h2 => ?_⟩
  · by_cases ea : a = j + 1
    · rw [ea, sw_b, sw_c g j h4 (by omega)]
      exact h.rest j b (by omega) h2 (by omega) (by omega)
    · by_cases eb : b = j + 1
      · rw [eb, sw_b, sw_c g j h3 ea]
        exact h.rest a j (by omega) (by omega) ea (by omega)
      · rw [sw_c g j h3 ea, sw_c g j h4 eb]
        exact h.rest a b h1 h2 ea eb
  · rw [sw_a]
    by_cases eb : b = j + 1
    · rw [eb, sw_b]; exact hl
    · rw [sw_c g j (by omega) eb]
      exact h.at_ b (by omega) h2

theorem InsI.done {rk : Nat → Nat} {g : Nat → As} {i j : Nat} (h : InsI rk g i j) (hl : j = 0 ∨ rk (g (j - 1)).k < rk (g j).k) : SortedTo rk g (i + 1) := by
  intro a b h1 h2
  by_cases ea : a = j
  · rw [ea]; exact h.at_ b (by omega) (by omega)
  · by_cases eb : b = j
    · rcases hl with hl | hl
      · omega
      · rw [eb]
        by_cases e : a = j - 1
        · rw [e]; exact hl
        · exact Nat.lt_trans (h.rest a (j - 1) (by omega) (by omega) ea (by omega)) hl
    · exact h.rest a b h1 (by omega) ea eb

theorem sw_cells {w : World} {b n j : Nat} {g : Nat → As} (h : Cells w b (n * 3) (asC g)) (hj : j + 1 < n) :
    Cells ((((((w.setCell ⟨b, (j + 1) * 3, none⟩ (.int .i64 (g j).k)).setCell ⟨b, (j + 1) * 3 + 1, none⟩ (.int .i64 (g j).v)).setCell ⟨b, (j + 1) * 3 + 2, none⟩ (.int .i64 (g j).t)).setCell ⟨b, j * 3, none⟩ (.int .i64 (g (j + 1)).k)).setCell ⟨b, j * 3 + 1, none⟩ (.int .i64 (g (j + 1)).v)).setCell ⟨b, j * 3 + 2, none⟩ (.int .i64 (g (j + 1)).t)) b (n * 3) (asC (sw g j)) :=
  as_put (as_put h hj (g j)) (by omega) (g (j + 1))

structure InsOut (rk : Nat → Nat) (R n : Nat) (g g' : Nat → As) (w w' : World) : Prop where
  c : Cells w' R (n * 3) (asC g')
  s : SortedTo rk g' n
  same : Same g g' n
  kp : Keeps (fun b => b = R) w w'

theorem keeps_six {R : Nat} {w w' : World} (h : Keeps (fun b => b = R) w w') (a b c d e f : Nat) (p q r s t u : Value) : Keeps (fun b => b = R) w ((((((w'.setCell ⟨R, a, none⟩ p).setCell ⟨R, b, none⟩ q).setCell ⟨R, c, none⟩ r).setCell ⟨R, d, none⟩ s).setCell ⟨R, e, none⟩ t).setCell ⟨R, f, none⟩ u) :=
  (((((h.setCell (p := ⟨R, a, none⟩) rfl p).setCell (p := ⟨R, b, none⟩) rfl q).setCell (p := ⟨R, c, none⟩) rfl r).setCell (p := ⟨R, d, none⟩) rfl s).setCell (p := ⟨R, e, none⟩) rfl t).setCell (p := ⟨R, f, none⟩) rfl u

abbrev S43 (R i j : Nat) (g : Nat → As) (T w' : World) : Prop :=
  w'.cell? ⟨R, i * 3, none⟩ = some (.int .i64 (g i).k) ∧ w'.cell? ⟨R, i * 3 + 1, none⟩ = some (.int .i64 (g i).v) ∧ w'.cell? ⟨R, i * 3 + 2, none⟩ = some (.int .i64 (g i).t) ∧
  w'.cell? ⟨R, j * 3, none⟩ = some (.int .i64 (g j).k) ∧ w'.cell? ⟨R, j * 3 + 1, none⟩ = some (.int .i64 (g j).v) ∧ w'.cell? ⟨R, j * 3 + 2, none⟩ = some (.int .i64 (g j).t) ∧ Below T.heap.size T w'
theorem s43 {R i j n : Nat} {g : Nat → As} {T w' : World} (h : Cells T R (n * 3) (asC g)) (hi : i < n) (hj : j < n) (hb : Below T.heap.size T w') : S43 R i j g T w' := by
  have k := h.later hb
  refine ⟨?_, ?_, ?_, ?_, ?_, ?_, hb⟩
  · rw [k.cell _ (by omega), asC0]
  · rw [k.cell _ (by omega), asC1]
  · rw [k.cell _ (by omega), asC2]
  · rw [k.cell _ (by omega), asC0]
  · rw [k.cell _ (by omega), asC1]
  · rw [k.cell _ (by omega), asC2]

set_option maxRecDepth 100000 in
set_option maxHeartbeats 2000000 in
theorem ins_any (AG O P na BX R n cap : Nat) (rk : Nat → Nat) (g : Nat → As) (w : World) (hI : RkIn AG O P na rk w) (hb : w.cell? ⟨BX, 0, none⟩ = some (.pointer (some ⟨AG, 0, none⟩))) (hC : Cells w R (n * 3) (asC g)) (hn0 : 0 < n) (hn : n ≤ 6) (hna : na ≤ 6) (hD : LtD rk na g n)
    (e1 : ¬ AG = R) (e2 : ¬ O = R) (e3 : ¬ P = R) (e4 : ¬ BX = R) :
    Calls Yba.prog 43 #[.slice (some ⟨R, 0, none⟩) n cap, .int .i64 0, .int .i64 n, .func (.func 36) #[] #[.pointer (some ⟨BX, 0, none⟩)]] w fun e w' => e = .returned (.tuple #[]) ∧ ∃ g', InsOut rk R n g g' w w' := by
  have HI : Hid (RkIn AG O P na rk w ∧ w.cell? ⟨BX, 0, none⟩ = some (.pointer (some ⟨AG, 0, none⟩))) := ⟨hI, hb⟩
  have HS : Hid (Cells w R (n * 3) (asC g) ∧ LtD rk na g n) := ⟨hC, hD⟩
  clear hI hb hC hD
  go_enter Yba.func43, Yba.ntmps43
  go_wp2_with fail
  go_loopw [8] (fun x wr => ∃ i : Nat, 1 ≤ i ∧ i ≤ n ∧ x = .int .i64 i ∧ ∃ g', Cells wr R (n * 3) (asC g') ∧ SortedTo rk g' i ∧ Same g g' n ∧ LtD rk na g' n ∧ Keeps (fun b => b = R) w wr) (fun x _ => n - (intOf x).toNat)
  case atStart => exact ⟨1, Nat.le_refl _, hn0, by go_num, g, HS.out.1, fun a b h1 h2 => by omega, Same.refl _ _, HS.out.2, Keeps.refl _ _⟩
  case round =>
    obtain ⟨i, hi1, hi2, rfl, g1, hC, hSo, hSa, hD, hK⟩ := hrel
    by_cases hlt : i < n
    · have HO : Hid (SortedTo rk g1 i) := hSo
      have HQ : Hid (Cells wr R (n * 3) (asC g1) ∧ InsI rk g1 i i ∧ Same g g1 n ∧ LtD rk na g1 n ∧ Keeps (fun b => b = R) w wr) := ⟨hC, InsI.start hSo, hSa, hD, hK⟩
      clear hC hSo hSa hD hK HS
      go_wp2_with fail
      go_loopw [9] (fun x wr => ∃ j : Nat, j ≤ i ∧ x = .int .i64 j ∧ ∃ g', Cells wr R (n * 3) (asC g') ∧ InsI rk g' i j ∧ Same g g' n ∧ LtD rk na g' n ∧ Keeps (fun b => b = R) w wr) (fun x _ => (intOf x).toNat)
      case atStart => exact ⟨i, Nat.le_refl _, rfl, g1, HQ.out⟩
      case round =>
        clear HQ HO
        obtain ⟨j, hj, rfl, g2, hC, hIn, hSa, hD, hK⟩ := hrel
        by_cases hz : j = 0
        · subst hz
          have HR : Hid (Cells wr R (n * 3) (asC g2) ∧ SortedTo rk g2 (i + 1) ∧ Same g g2 n ∧ LtD rk na g2 n ∧ Keeps (fun b => b = R) w wr) := ⟨hC, hIn.done (Or.inl rfl), hSa, hD, hK⟩
          clear hC hIn hSa hD hK
          go_upto_region 4 with fail
          go_quiet (fail)
          go_wp2_with fail
          go_roundw
          case rel => exact ⟨i + 1, by omega, by omega, by go_num, g2, HR.out.1.drewN _, HR.out.2.1, HR.out.2.2.1, HR.out.2.2.2.1, HR.out.2.2.2.2.drewN _⟩
          case measure => simp [intOf]; omega
        · obtain ⟨j1, hj1⟩ : ∃ j1, j = j1 + 1 := ⟨j - 1, by omega⟩
          have hI := HI.out.1.keeps hK e1 e2 e3
          have hBX := hK.cell (p := ⟨BX, 0, none⟩) e4 HI.out.2
          have hl1 := hD.lt j (by omega)
          have hl2 := hD.lt j1 (by omega)
          have hne : ¬ rk (g2 j).k = rk (g2 j1).k := fun h => by have := hD.inj _ _ (show j < n by omega) (show j1 < n by omega) h; omega
          obtain ⟨q1, q2, q3, q4, q5, q6, _⟩ := s43 hC (show j < n by omega) (show j1 < n by omega) (Below.refl _ _)
          have HR : Hid (Cells wr R (n * 3) (asC g2) ∧ InsI rk g2 i j ∧ Same g g2 n ∧ LtD rk na g2 n ∧ Keeps (fun b => b = R) w wr) := ⟨hC, hIn, hSa, hD, hK⟩
          clear hIn hSa hD hK
          have i1 : (0 : Int) ≤ (j : Int) := by omega
          have i2 : (j : Int) < (n : Int) := by omega
          have i3 : (0 : Int) ≤ (j1 : Int) := by omega
          have i4 : (j1 : Int) < (n : Int) := by omega
          have i5 : decide ((0 : Int) < (j : Int)) = true := by simp; omega
          have i6 : IntKind.i64.wrap ((j : Int) - 1) = (j1 : Int) := by
            simp [IntKind.wrap, IntKind.signed, IntKind.bits]; omega
          have hj1n : j1 < n := by omega
          have i8 : 0 < j := by omega
          have i9 : decide (0 < j) = true := by simp; omega
          have j0 : ¬ j = j1 := by omega
          have j0' : ¬ j1 = j := by omega
          have HJ : Hid (j = j1 + 1) := hj1
          clear hj1 hz
          go_upto_region 4 with fail
          have hjn : j < n := by omega
          go_cut [34] (fun s wx => s = .bool (decide ((rk (g2 j).k : Int) - (rk (g2 j1).k : Int) < 0)) ∧ Below wr.heap.size wr wx)
          case first =>
            go_region_held3 (fun w' => S43 R j j1 g2 wr w') ((refine s43 hC hjn hj1n ?_; repeat (first | refine Below.drew ?_ | refine bl_drewN ?_ _ | refine bl_new ?_ _ | refine bl_then hbq ?_ | exact Below.refl _ _))) (first | (go_at_call 36; refine (less_any AG O P na BX rk (g2 j) (g2 j1) _ (hI.later ?_) (cell_later ?_ hBX) hl1 hl2 hna).mono ?_; (repeat (first | refine Below.drew ?_ | refine bl_drewN ?_ _ | exact Below.refl _ _)); rintro e wq ⟨rfl, hbq⟩))
            obtain ⟨_, _, _, _, _, _, hbb⟩ : S43 R j j1 g2 wr _ := by assumption
            go_wp2_with fail
            go_meet
            exact ⟨rfl, hbb⟩
          case rest =>
          obtain ⟨rfl, hbc⟩ := hcut
          have hCc := HR.out.1.later hbc
          have hKc : Keeps (fun b => b = R) w wc := HR.out.2.2.2.2.trans (Keeps.of_below hbc)
          by_cases hl : rk (g2 j).k < rk (g2 j1).k
          · have hd : decide ((rk (g2 j).k : Int) - (rk (g2 j1).k : Int) < 0) = true := by simp; omega
            rw [hd]
            obtain ⟨p1, p2, p3, p4, p5, p6, _⟩ := s43 hCc hjn hj1n (Below.refl _ _)
            have f1 := hCc.free (j * 3) (by omega)
            have f2 := hCc.free (j * 3 + 1) (by omega)
            have f3 := hCc.free (j * 3 + 2) (by omega)
            have f4 := hCc.free (j1 * 3) (by omega)
            have f5 := hCc.free (j1 * 3 + 1) (by omega)
            have f6 := hCc.free (j1 * 3 + 2) (by omega)
            have HZ : Hid (Cells ((((((wc.setCell ⟨R, j * 3, none⟩ (.int .i64 (g2 j1).k)).setCell ⟨R, j * 3 + 1, none⟩ (.int .i64 (g2 j1).v)).setCell ⟨R, j * 3 + 2, none⟩ (.int .i64 (g2 j1).t)).setCell ⟨R, j1 * 3, none⟩ (.int .i64 (g2 j).k)).setCell ⟨R, j1 * 3 + 1, none⟩ (.int .i64 (g2 j).v)).setCell ⟨R, j1 * 3 + 2, none⟩ (.int .i64 (g2 j).t)) R (n * 3) (asC (sw g2 j1)) ∧ InsI rk (sw g2 j1) i j1 ∧ Same g (sw g2 j1) n ∧ LtD rk na (sw g2 j1) n ∧ Keeps (fun b => b = R) w wc) := by
              have hj1 := HJ.out
              subst hj1
              exact ⟨sw_cells hCc hjn, HR.out.2.1.step hl, HR.out.2.2.1.trans (Same.sw g2 hjn), HR.out.2.2.2.1.sw hjn, hKc⟩
            clear hCc hKc hC hbc q1 q2 q3 q4 q5 q6 hI hBX HR
            go_upto_region 6 with fail
            go_region
            go_wp2_with fail
            go_roundw
            case rel => exact ⟨j1, by have := HJ.out; omega, by go_num, sw g2 j1, HZ.out.1.drew, HZ.out.2.1, HZ.out.2.2.1, HZ.out.2.2.2.1, (keeps_six HZ.out.2.2.2.2 _ _ _ _ _ _ _ _ _ _ _ _).drew⟩
            case measure => have := HJ.out; simp [intOf]; omega
          · have hd : decide ((rk (g2 j).k : Int) - (rk (g2 j1).k : Int) < 0) = false := by simp; omega
            rw [hd]
            have HZ : Hid (Cells wc R (n * 3) (asC g2) ∧ SortedTo rk g2 (i + 1) ∧ Same g g2 n ∧ LtD rk na g2 n ∧ Keeps (fun b => b = R) w wc) := ⟨hCc, HR.out.2.1.done (Or.inr (by rw [show j - 1 = j1 by have := HJ.out; omega]; omega)), HR.out.2.2.1, HR.out.2.2.2.1, hKc⟩
            clear hCc hKc hC hbc q1 q2 q3 q4 q5 q6 hI hBX HR
            go_wp2_with fail
            go_roundw
            case rel => exact ⟨i + 1, by omega, by omega, by go_num, g2, HZ.out⟩
            case measure => simp [intOf]; omega
    · obtain rfl : n = i := by omega
      go_wp2_with fail
      go_end0
      exact ⟨rfl, g1, hC, hSo, hSa, hK⟩
end Go.Proofs.Ybulkclmc
