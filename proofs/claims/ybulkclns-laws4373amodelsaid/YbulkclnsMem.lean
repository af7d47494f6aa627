import Derived.Test.YbulkclnsRows
import Derived.WalkKit
import Derived.WalkSpells
import Derived.WalkLawsBesides
import Derived.Deep.QuietTactic
import Derived.BigQuiet
import Derived.Deep.RegionWith
import Derived.Deep.RegionHeld3
import Derived.Deep.DeepCutAuto
import Derived.Deep.OwnRows
import Derived.Deep.AppendLies
import Derived.Maps.OwnSet
namespace Go.Proofs.Ybulkclns
open Go.RowKit

/-- The first n cells of block b hold f 0, f 1, .., and may be written. -/
structure Cells (w : World) (b n : Nat) (f : Nat → Value) : Prop where
  cell : ∀ i, i < n → w.cell? ⟨b, i, none⟩ = some (f i)
  free : ∀ i, i < n → w.frozen? ⟨b, i, none⟩ = false
  lt : b < w.heap.size

theorem Cells.below {B : Nat} {w w' : World} {b n : Nat} {f : Nat → Value} (h : Cells w b n f) (hb : Below B w w') (hB : b < B) : Cells w' b n f :=
  ⟨fun i hi => (hb.cell (p := ⟨b, i, none⟩) hB).trans (h.cell i hi), fun i hi => (hb.frozen (p := ⟨b, i, none⟩) hB).trans (h.free i hi), Nat.lt_of_lt_of_le h.lt hb.size⟩

theorem Cells.later {w w' : World} {b n : Nat} {f : Nat → Value} (h : Cells w b n f) (hb : Below w.heap.size w w') : Cells w' b n f := h.below hb h.lt

theorem Cells.congr {w : World} {b n : Nat} {f g : Nat → Value} (h : Cells w b n f) (e : ∀ i, i < n → f i = g i) : Cells w b n g :=
  ⟨fun i hi => by rw [h.cell i hi, e i hi], h.free, h.lt⟩

theorem cell_setCell (w : World) (b j i : Nat) (v : Value) (h : (w.cell? ⟨b, j, none⟩).isSome = true) : (w.setCell ⟨b, j, none⟩ v).cell? ⟨b, i, none⟩ = if i = j then some v else w.cell? ⟨b, i, none⟩ := by
  by_cases e : i = j
  · subst e
    rw [if_pos rfl]
    exact World.cell?_setCell_same' _ _ _ h
  · rw [if_neg e]
    exact World.cell?_setCell_other _ _ _ _ (fun h => e (by simpa using (congrArg Addr.off h).symm))

theorem Cells.set {w : World} {b n : Nat} {f : Nat → Value} (h : Cells w b n f) {j : Nat} (hj : j < n) (v : Value) : Cells (w.setCell ⟨b, j, none⟩ v) b n (fun i => if i = j then v else f i) := by
  refine ⟨fun i hi => ?_, fun i hi => ?_, ?_⟩
  · rw [cell_setCell w b j i v (by rw [h.cell j hj]; rfl)]
    by_cases e : i = j
    · simp [e]
    · simp [e, h.cell i hi]
  · rw [World.frozen?_setCell]; exact h.free i hi
  · simpa [World.setCell] using h.lt

theorem Cells.other {w : World} {b n : Nat} {f : Nat → Value} (h : Cells w b n f) {b' j : Nat} (hne : b ≠ b') (v : Value) : Cells (w.setCell ⟨b', j, none⟩ v) b n f := by
  refine ⟨fun i hi => ?_, fun i hi => ?_, by simpa [World.setCell] using h.lt⟩
  · rw [← h.cell i hi]
    exact World.cell?_of_block (w := w) (Below.heap_setCell _ _ _ _ hne)
  · rw [World.frozen?_setCell]; exact h.free i hi

theorem Cells.alloc {w : World} {b n : Nat} {f : Nat → Value} (h : Cells w b n f) (o : Obj) : Cells (w.alloc o) b n f :=
  h.later ((Below.refl _ _).alloc (Nat.le_refl _) _)

theorem Cells.drewN {w : World} {b n : Nat} {f : Nat → Value} (h : Cells w b n f) (q : Nat) : Cells (w.drewN q) b n f :=
  h.later ⟨rfl, rfl, rfl, Nat.le_refl _, fun _ _ => rfl⟩

theorem Cells.drew {w : World} {b n : Nat} {f : Nat → Value} (h : Cells w b n f) : Cells w.drew b n f :=
  h.later ⟨rfl, rfl, rfl, Nat.le_refl _, fun _ _ => rfl⟩

/-- what a make hands over -/
theorem Cells.made {w1 : World} {B e size n : Nat} {xs : List Value} (h : w1.ownsRow B e size (.slice (some ⟨B, 0, none⟩) n n) n xs) : Cells w1 B (n * size) (fun i => xs.getD i default) := by
  obtain ⟨hl, h | ⟨g, cap, cur, hv, _, hh, _, _, hs, ht⟩⟩ := h
  · simp at h
  · simp at hv
    obtain ⟨rfl, rfl⟩ := hv
    refine ⟨fun i hi => ?_, fun i hi => ?_, ?_⟩
    · have e : (cur.toList.take (n * size))[i]? = xs[i]? := by rw [ht]
      rw [List.getElem?_take_of_lt hi] at e
      have hx : i < xs.length := by omega
      have hc : i < cur.size := by omega
      simp only [World.cell?, hh]
      simp [List.getD, hx] at e ⊢
      simpa [hc] using e
    · simp [World.frozen?, hh]
    · apply Decidable.byContradiction
      intro hc
      rw [Array.getElem?_eq_none (by omega)] at hh
      cases hh
theorem made_get {z : Array Value} {n i : Nat} (hi : i < n) : (madeCells z n).toList.getD i default = z[i % z.size]! := by
  simp [madeCells, List.getD, hi]

/-- w' is w but for new blocks and for the blocks in S. -/
structure Keeps (S : Nat → Prop) (w w' : World) : Prop where
  os : w'.os = w.os
  tape : w'.tape = w.tape
  output : w'.output = w.output
  size : w.heap.size ≤ w'.heap.size
  block : ∀ k, k < w.heap.size → ¬ S k → w'.heap[k]? = w.heap[k]?

theorem Keeps.refl (S : Nat → Prop) (w : World) : Keeps S w w := ⟨rfl, rfl, rfl, Nat.le_refl _, fun _ _ _ => rfl⟩
theorem Keeps.trans {S : Nat → Prop} {a b c : World} (h : Keeps S a b) (k : Keeps S b c) : Keeps S a c :=
  ⟨k.os.trans h.os, k.tape.trans h.tape, k.output.trans h.output, Nat.le_trans h.size k.size, fun i hi hs => (k.block i (Nat.lt_of_lt_of_le hi h.size) hs).trans (h.block i hi hs)⟩
theorem Keeps.weak {S T : Nat → Prop} {a b : World} (h : Keeps S a b) (hST : ∀ k, S k → T k) : Keeps T a b :=
  ⟨h.os, h.tape, h.output, h.size, fun i hi hs => h.block i hi (fun x => hs (hST i x))⟩
theorem Keeps.alloc {S : Nat → Prop} {a w : World} (h : Keeps S a w) (o : Obj) : Keeps S a (w.alloc o) :=
  h.trans ⟨rfl, rfl, rfl, by simp, fun k hk _ => Below.heap_alloc _ _ _ hk⟩
theorem Keeps.setCell {S : Nat → Prop} {a w : World} (h : Keeps S a w) {p : Addr} (hp : S p.block) (u : Value) : Keeps S a (w.setCell p u) :=
  h.trans ⟨rfl, rfl, rfl, by simp [World.setCell], fun k _ hs => Below.heap_setCell _ _ _ _ (fun e => hs (e ▸ hp))⟩
theorem Keeps.setNew {S : Nat → Prop} {a w : World} (h : Keeps S a w) {p : Addr} (hp : a.heap.size ≤ p.block) (u : Value) : Keeps S a (w.setCell p u) :=
  ⟨h.os, h.tape, h.output, by simpa [World.setCell] using h.size, fun k hk hs => (Below.heap_setCell _ _ _ _ (by omega)).trans (h.block k hk hs)⟩
theorem Keeps.drewN {S : Nat → Prop} {a w : World} (h : Keeps S a w) (q : Nat) : Keeps S a (w.drewN q) := ⟨h.os, h.tape, h.output, h.size, h.block⟩
theorem Keeps.drew {S : Nat → Prop} {a w : World} (h : Keeps S a w) : Keeps S a w.drew := ⟨h.os, h.tape, h.output, h.size, h.block⟩
theorem Keeps.cell {S : Nat → Prop} {w w' : World} (h : Keeps S w w') {p : Addr} {v : Value} (hp : ¬ S p.block) (hc : w.cell? p = some v) : w'.cell? p = some v :=
  (World.cell?_of_block (w := w) (h.block p.block (World.block_lt_of_cell? _ _ hc) hp)).trans hc
theorem Keeps.cells {S : Nat → Prop} {w w' : World} (h : Keeps S w w') {b n : Nat} {f : Nat → Value} (hp : ¬ S b) (hc : Cells w b n f) : Cells w' b n f :=
  ⟨fun i hi => (World.cell?_of_block (w := w) (a := ⟨b, i, none⟩) (h.block b hc.lt hp)).trans (hc.cell i hi), fun i hi => (World.frozen?_of_block (w := w) (a := ⟨b, i, none⟩) (h.block b hc.lt hp)).trans (hc.free i hi), Nat.lt_of_lt_of_le hc.lt h.size⟩
theorem Keeps.below {S : Nat → Prop} {w w' : World} (h : Keeps S w w') {B : Nat} (hB : B ≤ w.heap.size) (hS : ∀ k, S k → B ≤ k) : Below B w w' :=
  ⟨h.os, h.tape, h.output, h.size, fun k hk => h.block k (by omega) (fun s => by have := hS k s; omega)⟩
theorem Keeps.of_below {S : Nat → Prop} {w w' : World} (h : Below w.heap.size w w') : Keeps S w w' := ⟨h.os, h.tape, h.output, h.size, fun k hk _ => h.block k hk⟩

/-- what an append hands over -/
theorem Cells.owned {w1 : World} {B e size g n cap : Nat} {xs : List Value} (h : w1.ownsRow B e size (.slice (some ⟨g, 0, none⟩) n cap) n xs) (hg : g < w1.heap.size) : Cells w1 g (n * size) (fun i => xs.getD i default) := by
  obtain ⟨hl, h | ⟨g', cap', cur, hv, _, hh, hnc, _, hs, ht⟩⟩ := h
  · simp at h
  · simp at hv
    obtain ⟨rfl, rfl⟩ := hv
    have hle : n * size ≤ cap * size := Nat.mul_le_mul_right _ hnc
    refine ⟨fun i hi => ?_, fun i hi => ?_, hg⟩
    · have e : (cur.toList.take (n * size))[i]? = xs[i]? := by rw [ht]
      rw [List.getElem?_take_of_lt hi] at e
      have hx : i < xs.length := by omega
      have hc : i < cur.size := by omega
      simp only [World.cell?, hh]
      simp [List.getD, hx] at e ⊢
      simpa [hc] using e
    · simp [World.frozen?, hh]


theorem bl_then {W X w1 : World} (h : Below X.heap.size X w1) (k : Below W.heap.size W X) : Below W.heap.size W w1 := k.trans (h.mono k.size)
theorem bl_new {W X : World} (k : Below W.heap.size W X) (o : Obj) : Below W.heap.size W (X.alloc o) := k.alloc k.size o
theorem bl_drewN {B : Nat} {a w : World} (h : Below B a w) (q : Nat) : Below B a (w.drewN q) := ⟨h.os, h.tape, h.output, h.size, h.block⟩
theorem keep1 (W : World) (V a : Nat) (x : Value) : Keeps (fun q => q = V) W (W.setCell ⟨V, a, none⟩ x) := (Keeps.refl (fun q => q = V) W).setCell (p := ⟨V, a, none⟩) (show V = V from rfl) x
def put {α : Type} (f : Nat → α) (k : Nat) (x : α) (j : Nat) : α := if j = k then x else f j
theorem put_same {α : Type} (f : Nat → α) (k : Nat) (x : α) : put f k x k = x := by simp [put]
theorem put_other {α : Type} (f : Nat → α) (k : Nat) (x : α) {j : Nat} (h : ¬ j = k) : put f k x j = f j := by simp [put, h]
theorem cells_new (w : World) (c : Array Value) (t : Nat) : Cells (w.alloc (.cells c t)) w.heap.size c.size (fun i => c[i]!) := by
  refine ⟨fun i hi => ?_, fun i hi => World.frozen?_alloc_at _ _ _ i rfl, by simp⟩
  rw [World.cell?_alloc_at _ _ _ i rfl]
  simp [hi]
theorem cells_mk (w : World) (z : Array Value) (m t : Nat) : Cells (w.alloc (.cells (madeCells z m) t)) w.heap.size m (fun i => z[i % z.size]!) := by
  refine ⟨fun i hi => ?_, fun i hi => World.frozen?_alloc_at _ _ _ i rfl, by simp⟩
  rw [World.cell?_alloc_at _ _ _ i rfl]
  simp [madeCells, hi]

def ptr (o : Option Nat) : Value := .pointer (o.map fun b => ⟨b, 0, none⟩)

/-- how a pointer in the map reads here -/
def PR (v : Value) : Option (DataW Unit × List MemPlace) :=
  match v with
  | .pointer none => some (.nil, [])
  | .pointer (some ⟨b, 0, none⟩) => some (.lit (.int .i64 b), [])
  | _ => none

theorem PR_ptr (o : Option Nat) : PR (ptr o) = some (match o with | none => .nil | some b => .lit (.int .i64 b), []) := by
  cases o <;> rfl

theorem PR_nil {v : Value} {ps : List MemPlace} (h : PR v = some (.nil, ps)) : v = .pointer none := by
  unfold PR at h
  split at h
  · rfl
  · simp at h
  · simp at h
theorem PR_lit {v : Value} {b : Nat} {ps : List MemPlace} (h : PR v = some (.lit (.int .i64 b), ps)) : v = .pointer (some ⟨b, 0, none⟩) := by
  unfold PR at h
  split at h
  · simp at h
  · rename_i b'
    simp at h
    have e : b' = b := by omega
    rw [e]
  · simp at h

/-- block b is a map that holds M, n of them; n0 bounds the stores -/
def MapP (w : World) (b : Nat) (M : Int → Option Nat) (n n0 : Nat) : Prop :=
  ∃ D, w.ownsMap Yba.prog 2 PR b n0 D ∧ (∀ x, Maps.has D (.int .i64 x) = (M x).isSome) ∧ (∀ x y, M x = some y → ∀ z, D.atKey (.int .i64 x) z = .lit (.int .i64 y)) ∧ Maps.size D = n

theorem keyed2 : Maps.Keyed Yba.prog 2 := Maps.int_keyed Yba.underlying2

theorem MapP.made (w : World) : MapP (w.alloc (.map #[] 0)) w.heap.size (fun _ => none) 0 0 :=
  ⟨.map [], World.ownsMap_made w _ _ _, fun x => rfl, (fun x y h => by cases h), rfl⟩
theorem MapP.lt {w : World} {b n n0 : Nat} {M : Int → Option Nat} (h : MapP w b M n n0) : b < w.heap.size := by
  obtain ⟨D, h, _⟩ := h; exact h.lt
theorem MapP.of_block {w w' : World} {b n n0 : Nat} {M : Int → Option Nat} (h : MapP w b M n n0) (e : w'.heap[b]? = w.heap[b]?) : MapP w' b M n n0 := by
  obtain ⟨D, ⟨es, clock, h1, h2⟩, h3⟩ := h
  exact ⟨D, ⟨es, clock, e.trans h1, h2⟩, h3⟩
theorem MapP.later {w w' : World} {b n n0 : Nat} {M : Int → Option Nat} (h : MapP w b M n n0) (hb : Below w.heap.size w w') : MapP w' b M n n0 := h.of_block (hb.block b h.lt)
theorem MapP.keeps {S : Nat → Prop} {w w' : World} {b n n0 : Nat} {M : Int → Option Nat} (h : MapP w b M n n0) (hk : Keeps S w w') (hb : ¬ S b) : MapP w' b M n n0 := h.of_block (hk.block b h.lt hb)

theorem MapP.len {w : World} {b n n0 : Nat} {M : Int → Option Nat} (h : MapP w b M n n0) (ty : TypeId) : (Builtin.len_ #[30] ty #[.map (some b)]).run Yba.prog w = .ok (.int .i64 n) w := by
  obtain ⟨D, h, _, _, rfl⟩ := h
  exact h.len Yba.underlying30 ty

theorem MapP.look {w : World} {b n n0 : Nat} {M : Int → Option Nat} (h : MapP w b M n n0) {x : Int} (hx : (Lit.int .i64 x).wf = true) (hz : (zeroValue 33).run Yba.prog w = .ok (.pointer none) w) : (Instr.lookup 30 (.map (some b)) (.int .i64 x) false).run Yba.prog w = .ok (ptr (M x)) w := by
  obtain ⟨D, h, h1, h2, _⟩ := h
  obtain ⟨v, ps, hr, hv⟩ := h.lookup keyed2 Yba.underlying30 hz (zd := .nil) (zp := []) rfl (Maps.keyOf_int_mk Yba.underlying2 hx)
  rw [hr]
  cases hm : M x with
  | none =>
    have : Maps.has D (.int .i64 x) = false := by rw [h1, hm]; rfl
    rw [Maps.atKey_of_not_has this] at hv
    rw [PR_nil hv]; rfl
  | some y =>
    rw [h2 x y hm] at hv
    rw [PR_lit hv]; rfl

theorem MapP.look_ok {w : World} {b n n0 : Nat} {M : Int → Option Nat} (h : MapP w b M n n0) {x : Int} (hx : (Lit.int .i64 x).wf = true) (hz : (zeroValue 33).run Yba.prog w = .ok (.pointer none) w) : (Instr.lookup 30 (.map (some b)) (.int .i64 x) true).run Yba.prog w = .ok (.tuple #[ptr (M x), .bool (M x).isSome]) w := by
  obtain ⟨D, h, h1, h2, _⟩ := h
  obtain ⟨v, ps, hr, hv⟩ := h.look_ok keyed2 Yba.underlying30 hz (zd := .nil) (zp := []) rfl (Maps.keyOf_int_mk Yba.underlying2 hx)
  rw [hr, h1]
  cases hm : M x with
  | none =>
    have : Maps.has D (.int .i64 x) = false := by rw [h1, hm]; rfl
    rw [Maps.atKey_of_not_has this] at hv
    rw [PR_nil hv]; rfl
  | some y =>
    rw [h2 x y hm] at hv
    rw [PR_lit hv]; rfl

def putM (M : Int → Option Nat) (x : Int) (o : Option Nat) (y : Int) : Option Nat := if y = x then o else M y

theorem MapP.store {w : World} {b n n0 : Nat} {M : Int → Option Nat} (h : MapP w b M n n0) {x : Int} (hx : (Lit.int .i64 x).wf = true) (p : Nat) (hn : n0 < maxLen) :
    ∃ w', (Instr.mapUpdate 30 (.map (some b)) (.int .i64 x) (.pointer (some ⟨p, 0, none⟩))).run Yba.prog w = .ok () w' ∧ MapP w' b (putM M x (some p)) (if (M x).isSome then n else n + 1) (n0 + 1) ∧ w.grownBy w' (some b) := by
  obtain ⟨D, h, h1, h2, rfl⟩ := h
  have hI := h.isMap
  have hT := h.tidy keyed2
  obtain ⟨w', hr, ho, hg⟩ := h.update keyed2 Yba.underlying30 hn (val := .pointer (some ⟨p, 0, none⟩)) (d := .lit (.int .i64 p)) (ps := []) (Maps.keyOf_int_mk Yba.underlying2 hx) rfl
  have hkl : WideAt.IsKeyLit (.int .i64 x) := by first | trivial | exact ⟨⟩ | simp [WideAt.IsKeyLit]
  refine ⟨w', hr, ⟨_, ho, fun y => ?_, fun y q hq z => ?_, ?_⟩, hg⟩
  · by_cases e : y = x
    · subst e
      rw [Maps.has_put_same hI hkl]
      simp [putM]
    · rw [Maps.has_put_other (fun h => e (by simpa using h)), h1]
      simp [putM, e]
  · by_cases e : y = x
    · subst e
      rw [Maps.atKey_put_same hI hkl]
      simp [putM] at hq
      rw [hq]
    · rw [Maps.atKey_put_other (fun h => e (by simpa using h))]
      simp [putM, e] at hq
      exact h2 y q hq z
  · rw [Maps.size_put hT, h1]

theorem MapP.drop {w : World} {b n n0 : Nat} {M : Int → Option Nat} (h : MapP w b M n n0) {x : Int} (hx : (Lit.int .i64 x).wf = true) (ty : TypeId) :
    ∃ w', (Builtin.delete_ #[30, 2] ty #[.map (some b), .int .i64 x]).run Yba.prog w = .ok (.tuple #[]) w' ∧ MapP w' b (putM M x none) (if (M x).isSome then n - 1 else n) n0 ∧ w.grownBy w' (some b) := by
  obtain ⟨D, h, h1, h2, rfl⟩ := h
  have hT := h.tidy keyed2
  obtain ⟨w', hr, ho, hg⟩ := h.drop keyed2 Yba.underlying30 (Maps.keyOf_int_mk Yba.underlying2 hx) ty
  refine ⟨w', hr, ⟨_, ho, fun y => ?_, fun y q hq z => ?_, ?_⟩, hg.grown⟩
  · by_cases e : y = x
    · subst e
      rw [Maps.has_del_same]
      simp [putM]
    · rw [Maps.has_del_other (fun h => e (by simpa using h)), h1]
      simp [putM, e]
  · by_cases e : y = x
    · subst e
      simp [putM] at hq
    · rw [Maps.atKey_del_other (fun h => e (by simpa using h))]
      simp [putM, e] at hq
      exact h2 y q hq z
  · have := Maps.size_del (k := .int .i64 x) hT
    rw [h1] at this
    split at this <;> simp_all <;> omega
end Go.Proofs.Ybulkclns
