import Derived.Test.YbulkclnsRows
import Derived.Test.YbulkclnsQ
import Derived.WalkKit
import Derived.ProofKit
import Derived.OpenShut
import Derived.ShutString
import Derived.ChangeOld
import Derived.Below
namespace Go.Proofs.Ybulkclns.lawS4373AModel
open Go.ChangeShapes Go.WideShapes Go.ChangeAt Go.RowKit
open Go.ChangeMaps (open_string shut_string)
set_option linter.unusedVariables false

theorem own : ownKnob Yba.prog.godebug = none := by kernel_rfl
theorem laidOut : laidOutB Yba.prog = true := by kernel_rfl

/-- WHAT THE WALK IS TOLD OF A SLICE OF INTEGERS THAT CAME IN: it is nil; or it leads to a row of 'cap' cells, the numbers 'zs' (the first 'len' are its elements, the rest its spare room), each fitting its kind. -/
def IsRow (k : IntKind) (w : World) (a : Option Addr) (len cap : Nat) (zs : List Int) : Prop :=
  (a = none ∧ len = 0 ∧ cap = 0 ∧ zs = []) ∨
  ∃ x, a = some x ∧ len ≤ cap ∧ cap ≤ maxLen ∧ zs.length = cap ∧ (∀ i, i < zs.length → w.cell? (x.add i) = some (.int k (zs.getD i 0))) ∧ ∀ n ∈ zs, (Lit.int k n).wf = true

theorem u8_rng {n : Int} (h : (Lit.int .u8 n).wf = true) : 0 ≤ n ∧ n ≤ 255 := by
  simpa [Lit.wf, IntKind.min, IntKind.max, IntKind.signed, IntKind.bits] using h
theorem u16_rng {n : Int} (h : (Lit.int .u16 n).wf = true) : 0 ≤ n ∧ n ≤ 65535 := by
  simpa [Lit.wf, IntKind.min, IntKind.max, IntKind.signed, IntKind.bits] using h

/-- a row of bytes, as the walk wants it -/
theorem row_sl {w : World} {a : Option Addr} {len cap : Nat} {zs : List Int} (h : IsRow .u8 w a len cap zs) :
    SlU w a len (fun i => zs.getD i 0) ∧ len ≤ 9223372036854775807 := by
  have hr : (∀ n ∈ zs, 0 ≤ n ∧ n ≤ 255) → ∀ i, 0 ≤ zs.getD i 0 ∧ zs.getD i 0 ≤ 255 := by
    intro hz i
    by_cases hi : i < zs.length
    · have e : zs.getD i 0 = zs[i] := by simp [List.getD, hi]
      rw [e]
      exact hz _ (List.getElem_mem hi)
    · have e : zs.getD i 0 = 0 := by simp [List.getD, Nat.le_of_not_lt hi]
      rw [e]
      omega
  rcases h with ⟨rfl, rfl, rfl, rfl⟩ | ⟨x, rfl, hl, hm, hz, hcell, hwz⟩
  · exact ⟨⟨fun h => by omega, hr (fun n hn => by simp at hn)⟩, by omega⟩
  · refine ⟨⟨fun hp => ?_, hr (fun n hn => u8_rng (hwz n hn))⟩, by unfold maxLen at hm; omega⟩
    have hs : x.spot = none := by
      have h0 := hcell 0 (by omega)
      cases hsp : x.spot with
      | none => rfl
      | some k =>
        exfalso
        unfold World.cell? at h0
        simp [Addr.add, hsp] at h0
        split at h0 <;> simp at h0
    obtain ⟨b, o, s⟩ := x
    subst hs
    refine ⟨b, o, rfl, fun i hi => ?_⟩
    have h0 := hcell i (by omega)
    rw [← h0]
    by_cases e0 : i = 0
    · subst e0
      simp [Addr.add]
    · unfold Addr.add
      rw [if_neg e0]

/-! ### The walk -/
theorem walk (a0 : Int) (a1 : Int) (a2 : Int) (a3 : Int) (a4 : Option Addr) (len4 cap4 : Nat) (z4 : List Int) (a5 : Option Addr) (len5 cap5 : Nat) (z5 : List Int) (w : World) (w0 : (Lit.int .u16 a0).wf = true) (w1 : (Lit.int .u8 a1).wf = true) (w2 : (Lit.int .u8 a2).wf = true) (w3 : (Lit.int .u8 a3).wf = true) (w4 : IsRow .u8 w a4 len4 cap4 z4) (w5 : IsRow .u8 w a5 len5 cap5 z5) :
    Calls Yba.prog 3 #[.int .u16 a0, .int .u8 a1, .int .u8 a2, .int .u8 a3, .slice a4 len4 cap4, .slice a5 len5 cap5] w fun e w' => e = .returned (.bool true) ∧ Below w.heap.size w w' := by
  obtain ⟨s4, m4⟩ := row_sl w4
  obtain ⟨s5, m5⟩ := row_sl w5
  by_cases h5 : 1024 < len5
  · exact mod_long a0 a1 a2 a3 a4 a5 len4 cap4 len5 cap5 w h5
  · have r0 := u16_rng w0
    have r1 := u8_rng w1
    have r2 := u8_rng w2
    have r3 := u8_rng w3
    obtain ⟨b0, rfl⟩ : ∃ b : Nat, a0 = (b : Int) := ⟨a0.toNat, by omega⟩
    obtain ⟨b1, rfl⟩ : ∃ b : Nat, a1 = (b : Int) := ⟨a1.toNat, by omega⟩
    obtain ⟨b2, rfl⟩ : ∃ b : Nat, a2 = (b : Int) := ⟨a2.toNat, by omega⟩
    obtain ⟨b3, rfl⟩ : ∃ b : Nat, a3 = (b : Int) := ⟨a3.toNat, by omega⟩
    exact mod_walk b0 b1 b2 b3 a4 a5 len4 cap4 len5 cap5 _ _ w (by omega) (by omega) (by omega) (by omega) s4 s5 m4 (by omega)

/-! ### THE ROW's STEP: -/
set_option maxRecDepth 100000 in
theorem lifted (os : Os) (started : os.Started) (H : Type) (enc : TypeId × Value → H) :
    ReturnsInHanded {} Yba.checked os 3 .any (Rows.lawS4373AModelSpec.pre6 enc Yba.prog Yba.f3 Rows.lawS4373AModelRow.domain false) (Rows.lawS4373AModelSpec.post enc Yba.prog Yba.f3 false true false false) := by
  refine returnsInHanded_of_change (C := Yba.checked) own started (by kernel_rfl) Yba.func3
    (ChangeSpec.witness6 (enc := enc) (C := Yba.checked) false ⟨#[], #[.int .u16 0, .int .u8 0, .int .u8 0, .int .u8 0, .slice none 0 0, .slice none 0 0], []⟩ 8 (by kernel_rfl) (by kernel_rfl) (by kernel_rfl) (by kernel_rfl)) ?_
  intro W base args ds gs before hval0 hW hcnd _
  have hval : ∀ (j : Nat) t v, Yba.f3.params[j]? = some t → args[j]? = some v → Value.okWide Yba.prog W .any base t v := hval0
  have hW' := hW
  obtain ⟨p, q, hA0, hV, rfl, hfz, hnd⟩ := hW
  have hA : DataW.TrodAll enc Yba.prog W 0 (fun _ => true) true Yba.f3.params.toList args.toList ds p := hA0
  rw [Yba.params3] at hA hval
  obtain ⟨v0, vs0, d0, ds0, p0, q0, hargs, rfl, rfl, h0, r0⟩ := trodAll_cons hA
  obtain ⟨v1, vs1, d1, ds1, p1, q1, rfl, rfl, rfl, h1, r1⟩ := trodAll_cons r0
  obtain ⟨v2, vs2, d2, ds2, p2, q2, rfl, rfl, rfl, h2, r2⟩ := trodAll_cons r1
  obtain ⟨v3, vs3, d3, ds3, p3, q3, rfl, rfl, rfl, h3, r3⟩ := trodAll_cons r2
  obtain ⟨v4, vs4, d4, ds4, p4, q4, rfl, rfl, rfl, h4, r4⟩ := trodAll_cons r3
  obtain ⟨v5, vs5, d5, ds5, p5, q5, rfl, rfl, rfl, h5, r5⟩ := trodAll_cons r4
  obtain ⟨rfl, rfl, rfl⟩ := trodAll_nil r5
  obtain rfl : args = #[v0, v1, v2, v3, v4, v5] := by cases args; simp_all
  obtain ⟨rfl, rfl⟩ := trodVars_none hV
  obtain ⟨a0, rfl, rfl, rfl, w0⟩ := open_int Yba.underlying22 (hval 0 22 v0 rfl rfl) h0
  obtain ⟨a1, rfl, rfl, rfl, w1⟩ := open_int Yba.underlying5 (hval 1 5 v1 rfl rfl) h1
  obtain ⟨a2, rfl, rfl, rfl, w2⟩ := open_int Yba.underlying5 (hval 2 5 v2 rfl rfl) h2
  obtain ⟨a3, rfl, rfl, rfl, w3⟩ := open_int Yba.underlying5 (hval 3 5 v3 rfl rfl) h3
  obtain ⟨a4, len4, cap4, rfl⟩ := okWide_slice Yba.underlying23 (hval 4 23 v4 rfl rfl)
  have k4 := h4
  have lt4 : ∀ x ∈ p4, x.block < W.heap.size := by obtain ⟨m, hm⟩ := k4; exact DataW.trod_lt m _ _ _ hm
  obtain ⟨z4, w4⟩ : ∃ zs, IsRow .u8 W a4 len4 cap4 zs := by
    obtain ⟨fuel, hf⟩ := h4
    rcases open_ints Yba.underlying23 Yba.underlying5 (by kernel_rfl) hf with ⟨hcs, _⟩ | ⟨x, l, c, zs, hcs, _, hl, hm, hz, _, hcell, hwz⟩
    · simp [Value.cells] at hcs
      obtain ⟨rfl, rfl, rfl⟩ := hcs
      exact ⟨[], .inl ⟨rfl, rfl, rfl, rfl⟩⟩
    · simp [Value.cells] at hcs
      obtain ⟨rfl, rfl, rfl⟩ := hcs
      exact ⟨zs, .inr ⟨_, rfl, hl, hm, by simpa using hz, hcell, hwz⟩⟩
  obtain ⟨a5, len5, cap5, rfl⟩ := okWide_slice Yba.underlying23 (hval 5 23 v5 rfl rfl)
  have k5 := h5
  have lt5 : ∀ x ∈ p5, x.block < W.heap.size := by obtain ⟨m, hm⟩ := k5; exact DataW.trod_lt m _ _ _ hm
  obtain ⟨z5, w5⟩ : ∃ zs, IsRow .u8 W a5 len5 cap5 zs := by
    obtain ⟨fuel, hf⟩ := h5
    rcases open_ints Yba.underlying23 Yba.underlying5 (by kernel_rfl) hf with ⟨hcs, _⟩ | ⟨x, l, c, zs, hcs, _, hl, hm, hz, _, hcell, hwz⟩
    · simp [Value.cells] at hcs
      obtain ⟨rfl, rfl, rfl⟩ := hcs
      exact ⟨[], .inl ⟨rfl, rfl, rfl, rfl⟩⟩
    · simp [Value.cells] at hcs
      obtain ⟨rfl, rfl, rfl⟩ := hcs
      exact ⟨zs, .inr ⟨_, rfl, hl, hm, by simpa using hz, hcell, hwz⟩⟩
  clear hA0 hval0
  refine (walk a0 a1 a2 a3 a4 len4 cap4 z4 a5 len5 cap5 z5 W w0 w1 w2 w3 w4 w5).mono fun e W' ⟨he, bel⟩ => ?_
  subst he
  exact ⟨_, rfl, _, _, _, [], _, [], hW', trodAll_mk1 (shut_bool Yba.underlying4 _), (trodAll_cons_mk (shut_int Yba.underlying22 w0) (trodAll_cons_mk (shut_int Yba.underlying5 w1) (trodAll_cons_mk (shut_int Yba.underlying5 w2) (trodAll_cons_mk (shut_int Yba.underlying5 w3) (trodAll_cons_mk (Below.trod laidOut (by kernel_rfl) (of_decide_eq_true (by kernel_rfl)) k4 bel lt4) (trodAll_cons_mk (Below.trod laidOut (by kernel_rfl) (of_decide_eq_true (by kernel_rfl)) k5 bel lt5) trodAll_mk0)))))), rfl, bel.frame _, fun h => by cases h⟩

theorem over : Rows.lawS4373AModelRow.holds Yba.pinned (OpenSpec.ofChange Rows.lawS4373AModelSpec) :=
  OpenClaim.holds_of_wide 3 Yba.f3 rfl rfl rfl rfl rfl rfl rfl ⟨rfl, rfl, rfl, rfl, rfl⟩ rfl rfl rfl rfl rfl (by kernel_rfl) Yba.func3 (by kernel_rfl)
    (of_decide_eq_true (by kernel_rfl)) (by unfold Func.isWrapper; first | (rw [if_pos (by decide +kernel)]; kernel_rfl) | (rw [if_neg (by decide +kernel)]; exact ⟨rfl, rfl⟩))
    (fun os started H enc _ => lifted os started H enc)

/-- ████ THE STATEMENT ████ -/
theorem proved : Rows.LawS4373AModelSaid := over
end Go.Proofs.Ybulkclns.lawS4373AModel
namespace Go.Proofs.Ybulkclns
theorem model_proved : Rows.LawS4373AModelSaid := lawS4373AModel.proved
end Go.Proofs.Ybulkclns
