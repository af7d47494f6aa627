import Derived.Test.YbulkclmcRows
import Derived.WalkKit
import Derived.WalkSpells
import Derived.WalkLawsBesides
import Derived.Deep.QuietTactic
import Derived.BigQuiet
import Derived.Deep.RegionWith
import Derived.Deep.RegionHeld3
import Derived.Deep.DeepCutAuto
namespace Go.Proofs.Ybulkclmc
open Go.RowKit

/-- The first n cells of block b hold f 0, f 1, .., and may be written. -/
structure Cells (w : World) (b n : Nat) (f : Nat → Value) : Prop where
  cell : ∀ i, i < n → w.cell? ⟨b, i, none⟩ = some (f i)
  free : ∀ i, i < n → w.frozen? ⟨b, i, none⟩ = false
  lt : b < w.heap.size

theorem Cells.below {B : Nat} {w w' : World} {b n : Nat} {f : Nat → Value} (h : Cells w b n f) (hb : Below B w w') (hB : b < B) : Cells w' b n f :=
  ⟨fun i hi => (hb.cell (p := ⟨b, i, none⟩) hB).trans (h.cell i hi), fun i hi => (hb.frozen (p := ⟨b, i, none⟩) hB).trans (h.free i hi), Nat.lt_of_lt_of_le h.lt hb.size⟩

theorem Cells.later {w w' : World} {b n : Nat} {f : Nat → Value} (h : Cells w b n f) (hb : Below w.heap.size w w') : Cells w' b n f := h.below hb h.lt

theorem Cells.congr {w : World} {b n : Nat} {f g : Nat → Value} (h : Cells w b n f) (e : ∀ i, i < n → f i = g i) : Cells w b n g :=
  ⟨fun i hi => by rw [h.cell i hi, e i hi], h.free, h.lt⟩

theorem cell_setCell (w : World) (b j i : Nat) (v : Value) (h : (w.cell? ⟨b, j, none⟩).isSome = true) : (w.setCell ⟨b, j, none⟩ v).cell? ⟨b, i, none⟩ = if i = j then some v else w.cell? ⟨b, i, none⟩ := by
  by_cases e : i = j
  · subst e
    rw [if_pos rfl]
    exact World.cell?_setCell_same' _ _ _ h
  · rw [if_neg e]
    exact World.cell?_setCell_other _ _ _ _ (fun h => e (by simpa using (congrArg Addr.off h).symm))

theorem Cells.set {w : World} {b n : Nat} {f : Nat → Value} (h : Cells w b n f) {j : Nat} (hj : j < n) (v : Value) : Cells (w.setCell ⟨b, j, none⟩ v) b n (fun i => if i = j then v else f i) := by
  refine ⟨fun i hi => ?_, fun i hi => ?_, ?_⟩
  · rw [cell_setCell w b j i v (by rw [h.cell j hj]; rfl)]
    by_cases e : i = j
    · simp [e]
    · simp [e, h.cell i hi]
  · rw [World.frozen?_setCell]; exact h.free i hi
  · simpa [World.setCell] using h.lt

theorem Cells.other {w : World} {b n : Nat} {f : Nat → Value} (h : Cells w b n f) {b' j : Nat} (hne : b ≠ b') (v : Value) : Cells (w.setCell ⟨b', j, none⟩ v) b n f := by
  refine ⟨fun i hi => ?_, fun i hi => ?_, by simpa [World.setCell] using h.lt⟩
  · rw [← h.cell i hi]
    exact World.cell?_of_block (w := w) (Below.heap_setCell _ _ _ _ hne)
  · rw [World.frozen?_setCell]; exact h.free i hi

theorem Cells.alloc {w : World} {b n : Nat} {f : Nat → Value} (h : Cells w b n f) (o : Obj) : Cells (w.alloc o) b n f :=
  h.later ((Below.refl _ _).alloc (Nat.le_refl _) _)

theorem Cells.drewN {w : World} {b n : Nat} {f : Nat → Value} (h : Cells w b n f) (q : Nat) : Cells (w.drewN q) b n f :=
  h.later ⟨rfl, rfl, rfl, Nat.le_refl _, fun _ _ => rfl⟩

theorem Cells.drew {w : World} {b n : Nat} {f : Nat → Value} (h : Cells w b n f) : Cells w.drew b n f :=
  h.later ⟨rfl, rfl, rfl, Nat.le_refl _, fun _ _ => rfl⟩

/-- what a make hands over -/
theorem Cells.made {w1 : World} {B e size n : Nat} {xs : List Value} (h : w1.ownsRow B e size (.slice (some ⟨B, 0, none⟩) n n) n xs) : Cells w1 B (n * size) (fun i => xs.getD i default) := by
  obtain ⟨hl, h | ⟨g, cap, cur, hv, _, hh, _, _, hs, ht⟩⟩ := h
  · simp at h
  · simp at hv
    obtain ⟨rfl, rfl⟩ := hv
    refine ⟨fun i hi => ?_, fun i hi => ?_, ?_⟩
    · have e : (cur.toList.take (n * size))[i]? = xs[i]? := by rw [ht]
      rw [List.getElem?_take_of_lt hi] at e
      have hx : i < xs.length := by omega
      have hc : i < cur.size := by omega
      simp only [World.cell?, hh]
      simp [List.getD, hx] at e ⊢
      simpa [hc] using e
    · simp [World.frozen?, hh]
    · apply Decidable.byContradiction
      intro hc
      rw [Array.getElem?_eq_none (by omega)] at hh
      cases hh
theorem made_get {z : Array Value} {n i : Nat} (hi : i < n) : (madeCells z n).toList.getD i default = z[i % z.size]! := by
  simp [madeCells, List.getD, hi]

theorem Yba.info3 : (Yba.prog.info? 3).map (fun i => (i.zero, i.size, i.bytes)) = some (some (.int .i64 0), 1, 8) := by kernel_rfl
theorem Yba.info21 : (Yba.prog.info? 21).map (fun i => (i.zero, i.size, i.bytes)) = some (some (.int .i32 0), 1, 4) := by kernel_rfl

/-- the agent at place p of the order -/
def ordAt (n rot : Nat) (rev : Bool) (p : Nat) : Nat := if rev then n - 1 - (p + rot) % n else (p + rot) % n
theorem ordAt_lt {n : Nat} (hn : 0 < n) (rot : Nat) (rev : Bool) (p : Nat) : ordAt n rot rev p < n := by
  unfold ordAt
  have := Nat.mod_lt (p + rot) hn
  split <;> omega

/-- what pos holds behind k rounds -/
def posTo (n rot : Nat) (rev : Bool) : Nat → Nat → Value
  | 0, _ => .int .i32 0
  | k + 1, j => if j = ordAt n rot rev k then .int .i32 k else posTo n rot rev k j

def agTo (n rot : Nat) (rev : Bool) (k i : Nat) : Value := if i < k then .int .i64 (ordAt n rot rev i) else .int .i64 0

structure OrdI (n rot : Nat) (rev : Bool) (A P k : Nat) (B : Nat) (w wr : World) : Prop where
  ag : Cells wr A n (agTo n rot rev k)
  pos : Cells wr P n (posTo n rot rev k)
  bel : Below B w wr

theorem OrdI.step {n rot : Nat} {rev : Bool} {A P k B : Nat} {w wr : World} (h : OrdI n rot rev A P k B w wr) (hne : A ≠ P) (hA : B ≤ A) (hP : B ≤ P) (hk : k < n) :
    OrdI n rot rev A P (k + 1) B w ((wr.setCell ⟨A, k, none⟩ (.int .i64 (ordAt n rot rev k))).setCell ⟨P, ordAt n rot rev k, none⟩ (.int .i32 k)) := by
  have hlt := ordAt_lt (Nat.lt_of_le_of_lt (Nat.zero_le k) hk) rot rev k
  refine ⟨((h.ag.set hk _).other hne _).congr ?_, ((h.pos.other (Ne.symm hne) _).set hlt _).congr ?_, (h.bel.setCell hA _).setCell hP _⟩
  · intro i _
    unfold agTo
    by_cases e : i = k
    · subst e; simp
    · simp only [e, if_false]
      by_cases e2 : i < k
      · simp [e2, show i < k + 1 from by omega]
      · simp [e2, show ¬ i < k + 1 from by omega]
  · intro i _
    rfl

structure OrderI (n rot : Nat) (rev : Bool) (O A P : Nat) (w' : World) : Prop where
  o0 : w'.cell? ⟨O, 0, none⟩ = some (.slice (some ⟨A, 0, none⟩) n n)
  o3 : w'.cell? ⟨O, 3, none⟩ = some (.slice (some ⟨P, 0, none⟩) n n)
  ag : Cells w' A n (agTo n rot rev n)
  pos : Cells w' P n (posTo n rot rev n)

def BorderPost (n rot : Nat) (rev : Bool) (w : World) (e : Ending) (w' : World) : Prop :=
  ∃ O A P : Nat, e = .returned (.pointer (some ⟨O, 0, none⟩)) ∧ OrderI n rot rev O A P w' ∧ w.heap.size ≤ A ∧ w.heap.size ≤ P ∧ w.heap.size ≤ O ∧ O < w'.heap.size ∧ Below w.heap.size w w'

set_option maxRecDepth 100000 in
set_option maxHeartbeats 400000 in
theorem border_any (n rot : Nat) (rev : Bool) (w : World) (h1 : 1 ≤ n) (h2 : n ≤ 6) (h3 : rot ≤ 255) :
    Calls Yba.prog 12 #[.int .i64 n, .int .u8 rot, .bool rev] w fun e w' => BorderPost n rot rev w e w' := by
  obtain ⟨i3, hi3, hz30, hz31, hz32⟩ := info_parts Yba.info3
  obtain ⟨i21, hi21, hz210, hz211, hz212⟩ := info_parts Yba.info21
  go_enter Yba.func12, Yba.ntmps12
  go_wp2_with (first | (at_make; refine wpList_make_full _ rfl (.tmp 11) (.tmp 11) 37 rfl w.heap.size 3 i3 (.int .i64 0) 1 Yba.underlying37 hi3 hz30 hz31 .i64 .i64 _ _ n rfl rfl rfl rfl (by rw [hz32]; omega) (by unfold maxLen; omega) (Nat.le_refl _) ?_; intro w1 hown1 hgrow1; have hb1 := (Below.refl w.heap.size w).grown hgrow1 (Nat.le_refl _) (by simp)) | (at_make; refine wpList_make_full _ rfl (.tmp 13) (.tmp 13) 35 rfl w1.heap.size 21 i21 (.int .i32 0) 1 Yba.underlying35 hi21 hz210 hz211 .i64 .i64 _ _ n rfl rfl rfl rfl (by rw [hz212]; omega) (by unfold maxLen; omega) (Nat.le_refl _) ?_; intro w2 hown2 hgrow2; have hb2 := (Below.refl w1.heap.size w1).grown hgrow2 (Nat.le_refl _) (by simp)) | fail)
  have hA := Cells.made hown1
  have hP := Cells.made hown2
  have hAP : w.heap.size < w1.heap.size := hA.lt
  have hI : OrdI n rot rev w.heap.size w1.heap.size 0 w.heap.size w w2 := by
    rw [Nat.mul_one] at hA hP
    refine ⟨((hA.later hb2).congr ?_) , (hP.congr ?_), hb1.trans (hb2.mono hb1.size)⟩
    · intro i hi; rw [made_get (by omega)]; simp [agTo, Value.cells, Nat.mod_one]
    · intro i hi; rw [made_get (by omega)]; simp [posTo, Value.cells, Nat.mod_one]
  clear hown1 hgrow1 hb1 hown2 hgrow2 hb2 hA hP
  go_loopw [9] (fun p wr => ∃ k : Nat, k ≤ n ∧ p = .int .i64 k ∧ OrdI n rot rev w.heap.size w1.heap.size k w.heap.size w wr) (fun p _ => n - (intOf p).toNat)
  case atStart => exact ⟨0, Nat.zero_le _, rfl, hI⟩
  case round =>
    obtain ⟨k, hk, rfl, hR⟩ := hrel
    have hne : ¬ w.heap.size = w1.heap.size := by omega
    have hne' : ¬ w1.heap.size = w.heap.size := by omega
    by_cases hlt : k < n
    · have hq := ordAt_lt (n := n) (by omega) rot rev k
      have cA := hR.ag.cell k hlt
      have fA := hR.ag.free k hlt
      have cP := hR.pos.cell _ hq
      have fP := hR.pos.free _ hq
      have R := hR.step (by omega) (Nat.le_refl _) (Nat.le_of_lt hAP) hlt
      have HR : Hid (OrdI n rot rev w.heap.size w1.heap.size (k + 1) w.heap.size w ((wr.setCell ⟨w.heap.size, k, none⟩ (.int .i64 (ordAt n rot rev k))).setCell ⟨w1.heap.size, ordAt n rot rev k, none⟩ (.int .i32 k))) := R
      clear R hR hI
      have hm : ((k : Int) + (rot : Int)) % (n : Int) = (((k + rot) % n : Nat) : Int) := by rw [Int.natCast_emod, Int.natCast_add]
      have hml : (k + rot) % n < n := Nat.mod_lt _ (by omega)
      cases rev with
      | true =>
        have hqe : (n : Int) - 1 - (((k + rot) % n : Nat) : Int) = ((ordAt n rot true k : Nat) : Int) := by simp only [ordAt, if_true]; omega
        generalize ordAt n rot true k = q at *
        generalize (k + rot) % n = mm at *
        go_wp2
        go_roundw
        case rel => exact ⟨k + 1, by omega, by go_num, HR.out⟩
        case measure => simp [intOf]; omega
      | false =>
        have hqe : (((k + rot) % n : Nat) : Int) = ((ordAt n rot false k : Nat) : Int) := by simp [ordAt]
        rw [hqe] at hm
        generalize ordAt n rot false k = q at *
        clear hqe
        go_wp2
        go_roundw
        case rel => exact ⟨k + 1, by omega, by go_num, HR.out⟩
        case measure => simp [intOf]; omega
    · obtain rfl : k = n := by omega
      go_wp2
      go_ret
      have hb : Below wr.heap.size wr (wr.alloc (Obj.cells #[Value.slice (some { block := w.heap.size, off := 0 }) k k, Value.slice none 0 0, Value.slice none 0 0, Value.slice (some { block := w1.heap.size, off := 0 }) k k] 81)) := (Below.refl _ _).alloc (Nat.le_refl _) _
      have hs := hR.bel.size
      refine ⟨wr.heap.size, w.heap.size, w1.heap.size, rfl, ⟨?_, ?_, hR.ag.later hb, hR.pos.later hb⟩, Nat.le_refl _, Nat.le_of_lt hAP, hs, by simp, hR.bel.trans (hb.mono hs)⟩
      · go_simp
      · go_simp
end Go.Proofs.Ybulkclmc
