import Derived.Test.YbulkclmcWdA
import Derived.ProofKit
import Derived.OpenShut
import Derived.ShutString
import Derived.Deep.Grids
import Derived.Carry
namespace Go.Proofs.Ybulkclmc
open Go.ChangeShapes Go.WideShapes Go.ChangeAt Go.RowKit

theorem Yba.ownW : ownKnob Yba.prog.godebug = none := by kernel_rfl
theorem Yba.laidOutW : laidOutB Yba.prog = true := by kernel_rfl
theorem Yba.cells5 : Yba.prog.cellsOf 5 = 1 := by kernel_rfl
theorem Yba.cells4 : Yba.prog.cellsOf 4 = 1 := by kernel_rfl

theorem slIn_of {W : World} {x : Addr} {len n : Nat} {f : Nat → Value} (hl : len ≤ n) (hc : ∀ i, i < n → W.cell? (x.add i) = some (f i)) : SlIn W (some x) len f := by
  refine ⟨fun h => ?_⟩
  have h0 := hc 0 (by omega)
  have hs : x.spot = none := by
    cases hsp : x.spot with
    | none => rfl
    | some k =>
      exfalso
      unfold World.cell? at h0
      simp [Addr.add, hsp] at h0
      split at h0 <;> simp at h0
  obtain ⟨b, o, s⟩ := x
  subst hs
  refine ⟨b, o, rfl, fun i hi => ?_⟩
  have := hc i (by omega)
  rcases Nat.eq_zero_or_pos i with rfl | hp
  · simpa [Addr.add] using this
  · simpa [Addr.add, Nat.ne_of_gt hp] using this

theorem u8_rng {n : Int} (h : (Lit.int .u8 n).wf = true) : 0 ≤ n ∧ n ≤ 255 := by
  simpa [Lit.wf, IntKind.min, IntKind.max, IntKind.signed, IntKind.bits] using h

theorem open_u8s {H : Type} {enc : TypeId × Value → H} {W : World} {t e : TypeId} {fuel : Nat} {a0 : Option Addr} {len cap : Nat} {x : DataW H × List MemPlace} (ht : Yba.prog.underlying t = some (.slice e)) (he : Yba.prog.underlying e = some (.int .u8)) (hc : Yba.prog.cellsOf e = 1)
    (h : DataW.trod enc Yba.prog W 0 (fun _ => true) true fuel t (Value.slice a0 len cap).cells.toList = some x) :
    ∃ f : Nat → Nat, (∀ i, f i ≤ 255) ∧ SlIn W a0 len (fun i => .int .u8 (f i)) ∧ len ≤ 9223372036854775807 := by
  rcases open_ints ht he hc h with ⟨hcs, _⟩ | ⟨x, l, c, zs, hcs, _, hl, hm, hz, _, hcell, hwz⟩
  · simp [Value.cells] at hcs
    obtain ⟨rfl, rfl, rfl⟩ := hcs
    exact ⟨fun _ => 0, fun _ => Nat.zero_le _, ⟨fun h => by omega⟩, by omega⟩
  · simp [Value.cells] at hcs
    obtain ⟨rfl, rfl, rfl⟩ := hcs
    simp at hz
    have hr : ∀ i, 0 ≤ zs.getD i 0 ∧ zs.getD i 0 ≤ 255 := fun i => by
      by_cases hi : i < zs.length
      · exact u8_rng (hwz _ (by simp [List.getD, hi]))
      · simp [List.getD, show zs[i]? = none from List.getElem?_eq_none (by omega)]
    refine ⟨fun i => (zs.getD i 0).toNat, fun i => by have := hr i; show (zs.getD i 0).toNat ≤ 255; omega, slIn_of hl (fun i hi => ?_), by unfold maxLen at hm; omega⟩
    rw [hcell i (by omega)]
    have := hr i
    rw [Int.toNat_of_nonneg this.1]

theorem open_bs {H : Type} {enc : TypeId × Value → H} {W : World} {t e : TypeId} {fuel : Nat} {a0 : Option Addr} {len cap : Nat} {x : DataW H × List MemPlace} (ht : Yba.prog.underlying t = some (.slice e)) (he : Yba.prog.underlying e = some .bool) (hc : Yba.prog.cellsOf e = 1)
    (h : DataW.trod enc Yba.prog W 0 (fun _ => true) true fuel t (Value.slice a0 len cap).cells.toList = some x) :
    ∃ f : Nat → Bool, SlIn W a0 len (fun i => .bool (f i)) ∧ len ≤ 9223372036854775807 := by
  rcases Deep.open_bools ht he hc h with ⟨hcs, _⟩ | ⟨x, l, c, B, hcs, _, hl, hm, _, hcell⟩
  · simp [Value.cells] at hcs
    obtain ⟨rfl, rfl, rfl⟩ := hcs
    exact ⟨fun _ => false, ⟨fun h => by omega⟩, by omega⟩
  · simp [Value.cells] at hcs
    obtain ⟨rfl, rfl, rfl⟩ := hcs
    exact ⟨B, slIn_of hl hcell, by unfold maxLen at hm; omega⟩

set_option maxRecDepth 100000 in
theorem wd_lifted (os : Os) (started : os.Started) (H : Type) (enc : TypeId × Value → H) :
    ReturnsInHanded {} Yba.checked os 5 .any (Rows.lawS4370BWdegSpec.pre6 enc Yba.prog Yba.f5 Rows.lawS4370BWdegRow.domain false) (Rows.lawS4370BWdegSpec.post enc Yba.prog Yba.f5 false true false false) := by
  refine returnsInHanded_of_change (C := Yba.checked) Yba.ownW started (by kernel_rfl) Yba.func5
    (ChangeSpec.witness6 (enc := enc) (C := Yba.checked) false ⟨#[], #[.int .u8 0, .int .u8 0, .int .u8 0, .bool false, .slice none 0 0, .slice none 0 0, .slice none 0 0, .int .i64 0, .int .i64 0], []⟩ 8 (by kernel_rfl) (by kernel_rfl) (by kernel_rfl) (by kernel_rfl)) ?_
  intro W base args ds gs before hval0 hW hcnd _
  have hval : ∀ (j : Nat) t v, Yba.f5.params[j]? = some t → args[j]? = some v → Value.okWide Yba.prog W .any base t v := hval0
  have hW' := hW
  obtain ⟨p, q, hA0, hV, rfl, hfz, hnd⟩ := hW
  have hA : DataW.TrodAll enc Yba.prog W 0 (fun _ => true) true Yba.f5.params.toList args.toList ds p := hA0
  rw [Yba.params5] at hA hval
  obtain ⟨v0, vs0, d0, ds0, p0, q0, hargs, rfl, rfl, h0, r0⟩ := trodAll_cons hA
  obtain ⟨v1, vs1, d1, ds1, p1, q1, rfl, rfl, rfl, h1, r1⟩ := trodAll_cons r0
  obtain ⟨v2, vs2, d2, ds2, p2, q2, rfl, rfl, rfl, h2, r2⟩ := trodAll_cons r1
  obtain ⟨v3, vs3, d3, ds3, p3, q3, rfl, rfl, rfl, h3, r3⟩ := trodAll_cons r2
  obtain ⟨v4, vs4, d4, ds4, p4, q4, rfl, rfl, rfl, h4, r4⟩ := trodAll_cons r3
  obtain ⟨v5, vs5, d5, ds5, p5, q5, rfl, rfl, rfl, h5, r5⟩ := trodAll_cons r4
  obtain ⟨v6, vs6, d6, ds6, p6, q6, rfl, rfl, rfl, h6, r6⟩ := trodAll_cons r5
  obtain ⟨v7, vs7, d7, ds7, p7, q7, rfl, rfl, rfl, h7, r7⟩ := trodAll_cons r6
  obtain ⟨v8, vs8, d8, ds8, p8, q8, rfl, rfl, rfl, h8, r8⟩ := trodAll_cons r7
  obtain ⟨rfl, rfl, rfl⟩ := trodAll_nil r8
  obtain rfl : args = #[v0, v1, v2, v3, v4, v5, v6, v7, v8] := by cases args; simp_all
  obtain ⟨rfl, rfl⟩ := trodVars_none hV
  obtain ⟨a0, rfl, rfl, rfl, w0⟩ := open_int Yba.underlying5 (hval 0 5 v0 rfl rfl) h0
  obtain ⟨a1, rfl, rfl, rfl, w1⟩ := open_int Yba.underlying5 (hval 1 5 v1 rfl rfl) h1
  obtain ⟨a2, rfl, rfl, rfl, w2⟩ := open_int Yba.underlying5 (hval 2 5 v2 rfl rfl) h2
  obtain ⟨a3, rfl, rfl, rfl⟩ := open_bool Yba.underlying4 (hval 3 4 v3 rfl rfl) h3
  obtain ⟨x4, n4, c4, rfl⟩ := okWide_slice Yba.underlying83 (hval 4 83 v4 rfl rfl)
  obtain ⟨x5, n5, c5, rfl⟩ := okWide_slice Yba.underlying83 (hval 5 83 v5 rfl rfl)
  obtain ⟨x6, n6, c6, rfl⟩ := okWide_slice Yba.underlying41 (hval 6 41 v6 rfl rfl)
  obtain ⟨a7, rfl, rfl, rfl, w7⟩ := open_int Yba.underlying3 (hval 7 3 v7 rfl rfl) h7
  obtain ⟨a8, rfl, rfl, rfl, w8⟩ := open_int Yba.underlying3 (hval 8 3 v8 rfl rfl) h8
  have lt4 : ∀ x ∈ p4, x.block < W.heap.size := by obtain ⟨m, hm⟩ := h4; exact DataW.trod_lt m _ _ _ hm
  have lt5 : ∀ x ∈ p5, x.block < W.heap.size := by obtain ⟨m, hm⟩ := h5; exact DataW.trod_lt m _ _ _ hm
  have lt6 : ∀ x ∈ p6, x.block < W.heap.size := by obtain ⟨m, hm⟩ := h6; exact DataW.trod_lt m _ _ _ hm
  obtain ⟨ot, hot, i4, m4⟩ : ∃ f : Nat → Nat, (∀ i, f i ≤ 255) ∧ SlIn W x4 n4 (fun i => .int .u8 (f i)) ∧ n4 ≤ 9223372036854775807 := by
    obtain ⟨m, hm⟩ := h4; exact open_u8s Yba.underlying83 Yba.underlying5 Yba.cells5 hm
  obtain ⟨wg, hwg, i5, m5⟩ : ∃ f : Nat → Nat, (∀ i, f i ≤ 255) ∧ SlIn W x5 n5 (fun i => .int .u8 (f i)) ∧ n5 ≤ 9223372036854775807 := by
    obtain ⟨m, hm⟩ := h5; exact open_u8s Yba.underlying83 Yba.underlying5 Yba.cells5 hm
  obtain ⟨kk, i6, m6⟩ : ∃ f : Nat → Bool, SlIn W x6 n6 (fun i => .bool (f i)) ∧ n6 ≤ 9223372036854775807 := by
    obtain ⟨m, hm⟩ := h6; exact open_bs Yba.underlying41 Yba.underlying4 Yba.cells4 hm
  clear hA0 hval0
  simp only [List.append_nil] at hW'
  have hcall : Calls Yba.prog 5 #[.int .u8 a0, .int .u8 a1, .int .u8 a2, .bool a3, .slice x4 n4 c4, .slice x5 n5 c5, .slice x6 n6 c6, .int .i64 a7, .int .i64 a8] W fun e w' => e = .returned (.bool true) ∧ Below W.heap.size W w' := by
    by_cases hlong : 1024 < n4
    · exact wd_long a0 a1 a2 a3 x4 x5 x6 n4 c4 n5 c5 n6 c6 a7 a8 W hlong m4
    · have r0 := u8_rng w0
      have r1 := u8_rng w1
      have r2 := u8_rng w2
      obtain ⟨b0, rfl⟩ : ∃ b : Nat, a0 = b := ⟨a0.toNat, by omega⟩
      obtain ⟨b1, rfl⟩ : ∃ b : Nat, a1 = b := ⟨a1.toNat, by omega⟩
      obtain ⟨b2, rfl⟩ : ∃ b : Nat, a2 = b := ⟨a2.toNat, by omega⟩
      exact wd_walk b0 b1 b2 a3 x4 x5 x6 n4 c4 n5 c5 n6 c6 (b0 % 6 + 1) (b1 % (b0 % 6 + 1)) a7 a8 ot wg kk W (by omega) m5 m6 (by omega) (by omega) (by omega) i4 i5 i6 hot hwg rfl rfl
  refine hcall.mono fun e W' ⟨he, bel⟩ => ?_
  subst he
  have back : ∀ {t : TypeId} {v : Value} {d : DataW H} {ps : List MemPlace}, Yba.prog.readableRec t = true → t < Yba.prog.types.size → DataW.Trod enc Yba.prog W 0 (fun _ => true) true t v d ps → (∀ x ∈ ps, x.block < W.heap.size) → DataW.Trod enc Yba.prog W' 0 (fun b => decide (b < W.heap.size)) true t v d ps :=
    fun hr hrow h hlt => Below.trod Yba.laidOutW hr hrow h bel hlt
  exact ⟨_, rfl, _, _, _, [], _, [], hW', trodAll_mk1 (shut_bool Yba.underlying4 _), (trodAll_cons_mk (shut_int Yba.underlying5 w0) (trodAll_cons_mk (shut_int Yba.underlying5 w1) (trodAll_cons_mk (shut_int Yba.underlying5 w2) (trodAll_cons_mk (shut_bool Yba.underlying4 _)
    (trodAll_cons_mk (back (by kernel_rfl) (of_decide_eq_true (by kernel_rfl)) h4 lt4) (trodAll_cons_mk (back (by kernel_rfl) (of_decide_eq_true (by kernel_rfl)) h5 lt5) (trodAll_cons_mk (back (by kernel_rfl) (of_decide_eq_true (by kernel_rfl)) h6 lt6)
    (trodAll_cons_mk (shut_int Yba.underlying3 w7) (trodAll_cons_mk (shut_int Yba.underlying3 w8) trodAll_mk0))))))))), rfl, bel.frame _, fun h => by cases h⟩

theorem wd_over : Rows.lawS4370BWdegRow.holds Yba.pinned (OpenSpec.ofChange Rows.lawS4370BWdegSpec) :=
  OpenClaim.holds_of_wide 5 Yba.f5 rfl rfl rfl rfl rfl rfl rfl ⟨rfl, rfl, rfl, rfl, rfl⟩ rfl rfl rfl rfl rfl (by kernel_rfl) Yba.func5 (by kernel_rfl)
    (of_decide_eq_true (by kernel_rfl)) (by unfold Func.isWrapper; first | (rw [if_pos (by decide +kernel)]; kernel_rfl) | (rw [if_neg (by decide +kernel)]; exact ⟨rfl, rfl⟩))
    (fun os started H enc _ => wd_lifted os started H enc)

theorem wdeg_proved : Rows.LawS4370BWdegSaid :=
  wd_over
#print axioms wdeg_proved
end Go.Proofs.Ybulkclmc
