import Derived.Test.YbulkclmcLrn6
import Derived.ProofKit
import Derived.OpenShut
import Derived.ShutString
import Derived.Deep.Grids
import Derived.Carry
namespace Go.Proofs.Ybulkclmc
open Go.ChangeShapes Go.WideShapes Go.ChangeAt Go.RowKit

theorem Yba.cells3 : Yba.prog.cellsOf 3 = 1 := by kernel_rfl
theorem Yba.cells4' : Yba.prog.cellsOf 4 = 1 := by kernel_rfl
theorem Yba.cells27 : Yba.prog.cellsOf 27 = 1 := by kernel_rfl
theorem Yba.cells26 : Yba.prog.cellsOf 26 = 3 := by kernel_rfl
theorem Yba.cells29 : Yba.prog.cellsOf 29 = 2 := by kernel_rfl
theorem Yba.cells31 : Yba.prog.cellsOf 31 = 3 := by kernel_rfl
theorem Yba.cells55 : Yba.prog.cellsOf 55 = 4 := by kernel_rfl

section
variable {H : Type} {enc : TypeId × Value → H} {W : World}

/-- a slice of structs, opened at every index -/
theorem open_rows {t e sz fuel : Nat} {a0 : Option Addr} {len cap : Nat} {x : DataW H × List MemPlace} (ht : Yba.prog.underlying t = some (.slice e)) (hc : Yba.prog.cellsOf e = sz) (hsz : 0 < sz)
    (h : DataW.trod enc Yba.prog W 0 (fun _ => true) true fuel t [.slice a0 len cap] = some x) :
    len ≤ 9223372036854775807 ∧ (a0 = none → len = 0) ∧ (0 < len → ∃ b o n, a0 = some ⟨b, o, none⟩ ∧ ∀ i, i < len → ∃ cs y, cs.length = sz ∧ (∀ j, j < sz → W.cell? ⟨b, o + i * sz + j, none⟩ = cs[j]?) ∧ DataW.trod enc Yba.prog W 0 (fun _ => true) true n e cs = some y) := by
  rcases Deep.open_slice ht h with ⟨hcs, _⟩ | ⟨a, l, c, m, n, D, Pl, hcs, _, hl, hm, hmm, _, hx⟩
  · simp at hcs
    obtain ⟨rfl, rfl, rfl⟩ := hcs
    exact ⟨by omega, fun _ => rfl, fun h => by omega⟩
  · simp at hcs
    obtain ⟨rfl, rfl, rfl⟩ := hcs
    simp only [if_true] at hmm
    subst hmm
    refine ⟨by unfold maxLen at hm; omega, (fun h => by cases h), fun hp => ?_⟩
    have hs : a.spot = none := by
      obtain ⟨cs, h1, _⟩ := hx 0 (by omega)
      obtain ⟨_, hlen, hcell⟩ := World.cells?_some h1
      have h0 := hcell 0 (by omega)
      rw [Deep.add_add] at h0
      simp at h0
      cases hsp : a.spot with
      | none => rfl
      | some k =>
        exfalso
        rw [List.getElem?_eq_getElem (by omega)] at h0
        unfold World.cell? at h0
        simp [Addr.add, hsp] at h0
        split at h0 <;> simp at h0
    obtain ⟨b, o, s⟩ := a
    subst hs
    refine ⟨b, o, n, rfl, fun i hi => ?_⟩
    obtain ⟨cs, h1, h2⟩ := hx i (by omega)
    obtain ⟨_, hlen, hcell⟩ := World.cells?_some h1
    rw [hc] at hlen hcell
    refine ⟨cs, _, hlen, fun j hj => ?_, h2⟩
    have h0 := hcell j hj
    rw [Deep.add_add] at h0
    rw [← h0]
    by_cases e0 : i * sz + j = 0
    · have : i * sz = 0 ∧ j = 0 := by omega
      simp [Addr.add, this.1, this.2]
    · unfold Addr.add
      rw [if_neg e0]
      simp [Nat.add_assoc]

set_option maxRecDepth 100000 in
theorem el26 {fuel : Nat} {cs : List Value} {x : DataW H × List MemPlace} (h : DataW.trod enc Yba.prog W 0 (fun _ => true) true fuel 26 cs = some x) : ∃ p q r, cs = [.int .i64 p, .int .i64 q, .int .i64 r] := by
  obtain ⟨xs, k, _, _, hl, hxl, hf⟩ := DataW.trod_struct Yba.underlying26 h
  rw [Yba.cells26] at hl
  match xs, hxl, cs, hl with
  | [y0, y1, y2], _, [v0, v1, v2], _ =>
    have g0 := hf 0 _ rfl
    have g1 := hf 1 _ rfl
    have g2 := hf 2 _ rfl
    simp [Yba.cells3] at g0 g1 g2
    obtain ⟨a, ha, _⟩ := DataW.trod_int Yba.underlying3 g0
    obtain ⟨b, hb, _⟩ := DataW.trod_int Yba.underlying3 g1
    obtain ⟨c, hc, _⟩ := DataW.trod_int Yba.underlying3 g2
    simp at ha hb hc
    exact ⟨a, b, c, by rw [ha, hb, hc]⟩

set_option maxRecDepth 100000 in
theorem el55 {fuel : Nat} {cs : List Value} {x : DataW H × List MemPlace} (h : DataW.trod enc Yba.prog W 0 (fun _ => true) true fuel 55 cs = some x) : ∃ p q r s, cs = [.int .i64 p, .int .i64 q, .int .i64 r, .bool s] := by
  obtain ⟨xs, k, _, _, hl, hxl, hf⟩ := DataW.trod_struct Yba.underlying55 h
  rw [Yba.cells55] at hl
  match xs, hxl, cs, hl with
  | [y0, y1, y2, y3], _, [v0, v1, v2, v3], _ =>
    have g0 := hf 0 _ rfl
    have g1 := hf 1 _ rfl
    have g2 := hf 2 _ rfl
    have g3 := hf 3 _ rfl
    simp [Yba.cells3, Yba.cells4'] at g0 g1 g2 g3
    obtain ⟨a, ha, _⟩ := DataW.trod_int Yba.underlying3 g0
    obtain ⟨b, hb, _⟩ := DataW.trod_int Yba.underlying3 g1
    obtain ⟨c, hc, _⟩ := DataW.trod_int Yba.underlying3 g2
    obtain ⟨d, hd, _⟩ := DataW.trod_bool Yba.underlying4 g3
    simp at ha hb hc hd
    exact ⟨a, b, c, d, by rw [ha, hb, hc, hd]⟩

/-- a left-hand side as it comes in -/
theorem open_lhs {fuel : Nat} {v : Value} {x : DataW H × List MemPlace} (h : DataW.trod enc Yba.prog W 0 (fun _ => true) true fuel 27 [v] = some x) : ∃ q : Option Addr × Nat × Nat × (Nat → Int), v = .slice q.1 q.2.1 q.2.2.1 ∧ In3 W q.1 q.2.1 q.2.2.2 ∧ q.2.1 ≤ 9223372036854775807 := by
  obtain ⟨p, n, c, rfl⟩ : ∃ p n c, v = .slice p n c := by
    rcases Deep.open_slice Yba.underlying27 h with ⟨hcs, _⟩ | ⟨a, l, c, m, n, D, Pl, hcs, _⟩
    · simp at hcs; exact ⟨_, _, _, hcs⟩
    · simp at hcs; exact ⟨_, _, _, hcs⟩
  obtain ⟨hm, hn, hp⟩ := open_rows Yba.underlying27 Yba.cells26 (by omega) h
  by_cases h0 : 0 < n
  · obtain ⟨b, o, k, rfl, hx⟩ := hp h0
    obtain ⟨f, hf⟩ := Deep.choose_lt (α := Int × Int × Int) (p := fun i q => W.cell? ⟨b, o + i * 3, none⟩ = some (.int .i64 q.1) ∧ W.cell? ⟨b, o + i * 3 + 1, none⟩ = some (.int .i64 q.2.1) ∧ W.cell? ⟨b, o + i * 3 + 2, none⟩ = some (.int .i64 q.2.2)) (fun i hi => by
      obtain ⟨cs, y, hl, hcell, ht⟩ := hx i hi
      obtain ⟨p, q, r, rfl⟩ := el26 ht
      exact ⟨(p, q, r), hcell 0 (by omega), hcell 1 (by omega), hcell 2 (by omega)⟩)
    refine ⟨(some ⟨b, o, none⟩, n, c, fun i => if i % 3 = 0 then (f (i / 3)).1 else if i % 3 = 1 then (f (i / 3)).2.1 else (f (i / 3)).2.2), rfl, ⟨(fun h => by cases h), fun _ => ⟨b, o, rfl, fun i hi => ?_⟩⟩, hm⟩
    obtain ⟨q0, q1, q2⟩ := hf i hi
    have e0 : i * 3 / 3 = i := by omega
    have e1 : (i * 3 + 1) / 3 = i ∧ (i * 3 + 1) % 3 = 1 := by omega
    have e2 : (i * 3 + 2) / 3 = i ∧ (i * 3 + 2) % 3 = 2 := by omega
    simp [e0, e1.1, e1.2, e2.1, e2.2]
    exact ⟨q0, q1, q2⟩
  · exact ⟨(p, n, c, fun _ => 0), rfl, ⟨hn, fun h => absurd h h0⟩, hm⟩

set_option maxRecDepth 100000 in
theorem el29 {fuel : Nat} {cs : List Value} {x : DataW H × List MemPlace} (h : DataW.trod enc Yba.prog W 0 (fun _ => true) true fuel 29 cs = some x) : ∃ (q : Option Addr × Nat × Nat × (Nat → Int)) (s : Bool), cs = [.slice q.1 q.2.1 q.2.2.1, .bool s] ∧ In3 W q.1 q.2.1 q.2.2.2 ∧ q.2.1 ≤ 9223372036854775807 := by
  obtain ⟨xs, k, _, _, hl, hxl, hf⟩ := DataW.trod_struct Yba.underlying29 h
  rw [Yba.cells29] at hl
  match xs, hxl, cs, hl with
  | [y0, y1], _, [v0, v1], _ =>
    have g0 := hf 0 _ rfl
    have g1 := hf 1 _ rfl
    simp [Yba.cells27, Yba.cells4'] at g0 g1
    obtain ⟨q, rfl, h1, h2⟩ := open_lhs g0
    obtain ⟨d, hd, _⟩ := DataW.trod_bool Yba.underlying4 g1
    simp at hd
    exact ⟨q, d, by rw [hd], h1, h2⟩

set_option maxRecDepth 100000 in
theorem el31 {fuel : Nat} {cs : List Value} {x : DataW H × List MemPlace} (h : DataW.trod enc Yba.prog W 0 (fun _ => true) true fuel 31 cs = some x) : ∃ (q : Option Addr × Nat × Nat × (Nat → Int)) (s : Bool) (z : Int), cs = [.bool s, .slice q.1 q.2.1 q.2.2.1, .int .i64 z] ∧ In3 W q.1 q.2.1 q.2.2.2 ∧ q.2.1 ≤ 9223372036854775807 := by
  obtain ⟨xs, k, _, _, hl, hxl, hf⟩ := DataW.trod_struct Yba.underlying31 h
  rw [Yba.cells31] at hl
  match xs, hxl, cs, hl with
  | [y0, y1, y2], _, [v0, v1, v2], _ =>
    have g0 := hf 0 _ rfl
    have g1 := hf 1 _ rfl
    have g2 := hf 2 _ rfl
    simp [Yba.cells27, Yba.cells4', Yba.cells3] at g0 g1 g2
    obtain ⟨d, hd, _⟩ := DataW.trod_bool Yba.underlying4 g0
    obtain ⟨q, rfl, h1, h2⟩ := open_lhs g1
    obtain ⟨z, hz, _⟩ := DataW.trod_int Yba.underlying3 g2
    simp at hd hz
    exact ⟨q, d, z, by rw [hd, hz], h1, h2⟩

def lhsOf (q : Option Addr × Nat × Nat × (Nat → Int)) : Lhs := ⟨q.1, q.2.1, q.2.2.1, q.2.2.2⟩

theorem open_view {fuel : Nat} {a0 : Option Addr} {len cap : Nat} {x : DataW H × List MemPlace} (h : DataW.trod enc Yba.prog W 0 (fun _ => true) true fuel 22 [.slice a0 len cap] = some x) :
    len ≤ 9223372036854775807 ∧ ∃ (va vt vp : Nat → Int) (vk : Nat → Bool), 0 < len → ∃ b o, a0 = some ⟨b, o, none⟩ ∧ ∀ i, i < len → W.cell? ⟨b, o + i * 4, none⟩ = some (.int .i64 (va i)) ∧ W.cell? ⟨b, o + i * 4 + 1, none⟩ = some (.int .i64 (vt i)) ∧ W.cell? ⟨b, o + i * 4 + 2, none⟩ = some (.int .i64 (vp i)) ∧ W.cell? ⟨b, o + i * 4 + 3, none⟩ = some (.bool (vk i)) := by
  obtain ⟨hm, _, hp⟩ := open_rows Yba.underlying22 Yba.cells55 (by omega) h
  refine ⟨hm, ?_⟩
  by_cases h0 : 0 < len
  · obtain ⟨b, o, k, rfl, hx⟩ := hp h0
    obtain ⟨f, hf⟩ := Deep.choose_lt (α := Int × Int × Int × Bool) (p := fun i q => W.cell? ⟨b, o + i * 4, none⟩ = some (.int .i64 q.1) ∧ W.cell? ⟨b, o + i * 4 + 1, none⟩ = some (.int .i64 q.2.1) ∧ W.cell? ⟨b, o + i * 4 + 2, none⟩ = some (.int .i64 q.2.2.1) ∧ W.cell? ⟨b, o + i * 4 + 3, none⟩ = some (.bool q.2.2.2)) (fun i hi => by
      obtain ⟨cs, y, hl, hcell, ht⟩ := hx i hi
      obtain ⟨p, q, r, s, rfl⟩ := el55 ht
      exact ⟨(p, q, r, s), hcell 0 (by omega), hcell 1 (by omega), hcell 2 (by omega), hcell 3 (by omega)⟩)
    exact ⟨fun i => (f i).1, fun i => (f i).2.1, fun i => (f i).2.2.1, fun i => (f i).2.2.2, fun _ => ⟨b, o, rfl, hf⟩⟩
  · exact ⟨fun _ => 0, fun _ => 0, fun _ => 0, fun _ => false, fun h => absurd h h0⟩

theorem open_stored {fuel : Nat} {a0 : Option Addr} {len cap : Nat} {x : DataW H × List MemPlace} (h : DataW.trod enc Yba.prog W 0 (fun _ => true) true fuel 23 [.slice a0 len cap] = some x) :
    len ≤ 9223372036854775807 ∧ ∃ (L : Nat → Lhs) (has : Nat → Bool), (0 < len → ∃ b o, a0 = some ⟨b, o, none⟩ ∧ ∀ i, i < len → W.cell? ⟨b, o + i * 2, none⟩ = some (L i).val ∧ W.cell? ⟨b, o + i * 2 + 1, none⟩ = some (.bool (has i))) ∧ ∀ i, i < len → In3 W (L i).p (L i).n (L i).f ∧ (L i).n ≤ 9223372036854775807 := by
  obtain ⟨hm, _, hp⟩ := open_rows Yba.underlying23 Yba.cells29 (by omega) h
  refine ⟨hm, ?_⟩
  by_cases h0 : 0 < len
  · obtain ⟨b, o, k, rfl, hx⟩ := hp h0
    obtain ⟨f, hf⟩ := Deep.choose_lt (α := (Option Addr × Nat × Nat × (Nat → Int)) × Bool) (p := fun i q => (W.cell? ⟨b, o + i * 2, none⟩ = some (.slice q.1.1 q.1.2.1 q.1.2.2.1) ∧ W.cell? ⟨b, o + i * 2 + 1, none⟩ = some (.bool q.2)) ∧ In3 W q.1.1 q.1.2.1 q.1.2.2.2 ∧ q.1.2.1 ≤ 9223372036854775807) (fun i hi => by
      obtain ⟨cs, y, hl, hcell, ht⟩ := hx i hi
      obtain ⟨q, s, rfl, h1, h2⟩ := el29 ht
      exact ⟨(q, s), ⟨hcell 0 (by omega), hcell 1 (by omega)⟩, h1, h2⟩)
    exact ⟨fun i => lhsOf (f i).1, fun i => (f i).2, fun _ => ⟨b, o, rfl, fun i hi => (hf i hi).1⟩, fun i hi => (hf i hi).2⟩
  · exact ⟨fun _ => ⟨none, 0, 0, fun _ => 0⟩, fun _ => false, fun h => absurd h h0, fun i hi => by omega⟩

theorem open_expl {fuel : Nat} {a0 : Option Addr} {len cap : Nat} {x : DataW H × List MemPlace} (h : DataW.trod enc Yba.prog W 0 (fun _ => true) true fuel 24 [.slice a0 len cap] = some x) :
    len ≤ 9223372036854775807 ∧ ∃ (pr : Nat → Bool) (M : Nat → Lhs) (sz : Nat → Int), (0 < len → ∃ b o, a0 = some ⟨b, o, none⟩ ∧ ∀ i, i < len → W.cell? ⟨b, o + i * 3, none⟩ = some (.bool (pr i)) ∧ W.cell? ⟨b, o + i * 3 + 1, none⟩ = some (M i).val ∧ W.cell? ⟨b, o + i * 3 + 2, none⟩ = some (.int .i64 (sz i))) ∧ ∀ i, i < len → In3 W (M i).p (M i).n (M i).f ∧ (M i).n ≤ 9223372036854775807 := by
  obtain ⟨hm, _, hp⟩ := open_rows Yba.underlying24 Yba.cells31 (by omega) h
  refine ⟨hm, ?_⟩
  by_cases h0 : 0 < len
  · obtain ⟨b, o, k, rfl, hx⟩ := hp h0
    obtain ⟨f, hf⟩ := Deep.choose_lt (α := (Option Addr × Nat × Nat × (Nat → Int)) × Bool × Int) (p := fun i q => (W.cell? ⟨b, o + i * 3, none⟩ = some (.bool q.2.1) ∧ W.cell? ⟨b, o + i * 3 + 1, none⟩ = some (.slice q.1.1 q.1.2.1 q.1.2.2.1) ∧ W.cell? ⟨b, o + i * 3 + 2, none⟩ = some (.int .i64 q.2.2)) ∧ In3 W q.1.1 q.1.2.1 q.1.2.2.2 ∧ q.1.2.1 ≤ 9223372036854775807) (fun i hi => by
      obtain ⟨cs, y, hl, hcell, ht⟩ := hx i hi
      obtain ⟨q, s, z, rfl, h1, h2⟩ := el31 ht
      exact ⟨(q, s, z), ⟨hcell 0 (by omega), hcell 1 (by omega), hcell 2 (by omega)⟩, h1, h2⟩)
    exact ⟨fun i => (f i).2.1, fun i => lhsOf (f i).1, fun i => (f i).2.2, fun _ => ⟨b, o, rfl, fun i hi => (hf i hi).1⟩, fun i hi => (hf i hi).2⟩
  · exact ⟨fun _ => false, fun _ => ⟨none, 0, 0, fun _ => 0⟩, fun _ => 0, fun h => absurd h h0, fun i hi => by omega⟩
end
end Go.Proofs.Ybulkclmc
