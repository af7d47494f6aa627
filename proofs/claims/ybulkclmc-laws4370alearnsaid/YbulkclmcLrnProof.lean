import Derived.Test.YbulkclmcLrn7
import Derived.Test.YbulkclmcLrnOpen
namespace Go.Proofs.Ybulkclmc
open Go.ChangeShapes Go.WideShapes Go.ChangeAt Go.RowKit

theorem Yba.ownL : ownKnob Yba.prog.godebug = none := by kernel_rfl
theorem Yba.laidOutL : laidOutB Yba.prog = true := by kernel_rfl

theorem u8_rngL {n : Int} (h : (Lit.int .u8 n).wf = true) : 0 ≤ n ∧ n ≤ 255 := by
  simpa [Lit.wf, IntKind.min, IntKind.max, IntKind.signed, IntKind.bits] using h

set_option maxRecDepth 100000 in
theorem lrn_lifted (os : Os) (started : os.Started) (H : Type) (enc : TypeId × Value → H) :
    ReturnsInHanded {} Yba.checked os 3 .any (Rows.lawS4370ALearnSpec.pre6 enc Yba.prog Yba.f3 Rows.lawS4370ALearnRow.domain false) (Rows.lawS4370ALearnSpec.post enc Yba.prog Yba.f3 false true false false) := by
  refine returnsInHanded_of_change (C := Yba.checked) Yba.ownL started (by kernel_rfl) Yba.func3
    (ChangeSpec.witness6 (enc := enc) (C := Yba.checked) false ⟨#[], #[.int .u8 0, .slice none 0 0, .slice none 0 0, .slice none 0 0, .agg #[.int .i64 0, .int .i64 0, .int .i64 0]], []⟩ 8 (by kernel_rfl) (by kernel_rfl) (by kernel_rfl) (by kernel_rfl)) ?_
  intro W base args ds gs before hval0 hW hcnd _
  have hval : ∀ (j : Nat) t v, Yba.f3.params[j]? = some t → args[j]? = some v → Value.okWide Yba.prog W .any base t v := hval0
  have hW' := hW
  obtain ⟨p, q, hA0, hV, rfl, hfz, hnd⟩ := hW
  have hA : DataW.TrodAll enc Yba.prog W 0 (fun _ => true) true Yba.f3.params.toList args.toList ds p := hA0
  rw [Yba.params3] at hA hval
  obtain ⟨v0, vs0, d0, ds0, p0, q0, hargs, rfl, rfl, h0, r0⟩ := trodAll_cons hA
  obtain ⟨v1, vs1, d1, ds1, p1, q1, rfl, rfl, rfl, h1, r1⟩ := trodAll_cons r0
  obtain ⟨v2, vs2, d2, ds2, p2, q2, rfl, rfl, rfl, h2, r2⟩ := trodAll_cons r1
  obtain ⟨v3, vs3, d3, ds3, p3, q3, rfl, rfl, rfl, h3, r3⟩ := trodAll_cons r2
  obtain ⟨v4, vs4, d4, ds4, p4, q4, rfl, rfl, rfl, h4, r4⟩ := trodAll_cons r3
  obtain ⟨rfl, rfl, rfl⟩ := trodAll_nil r4
  obtain rfl : args = #[v0, v1, v2, v3, v4] := by cases args; simp_all
  obtain ⟨rfl, rfl⟩ := trodVars_none hV
  obtain ⟨a0, rfl, rfl, rfl, w0⟩ := open_int Yba.underlying5 (hval 0 5 v0 rfl rfl) h0
  obtain ⟨x1, n1, c1, rfl⟩ := okWide_slice Yba.underlying22 (hval 1 22 v1 rfl rfl)
  obtain ⟨x2, n2, c2, rfl⟩ := okWide_slice Yba.underlying23 (hval 2 23 v2 rfl rfl)
  obtain ⟨x3, n3, c3, rfl⟩ := okWide_slice Yba.underlying24 (hval 3 24 v3 rfl rfl)
  obtain ⟨z4, rfl, hz4⟩ := okWide_struct Yba.underlying26 (hval 4 26 v4 rfl rfl)
  have lt1 : ∀ x ∈ p1, x.block < W.heap.size := by obtain ⟨m, hm⟩ := h1; exact DataW.trod_lt m _ _ _ hm
  have lt2 : ∀ x ∈ p2, x.block < W.heap.size := by obtain ⟨m, hm⟩ := h2; exact DataW.trod_lt m _ _ _ hm
  have lt3 : ∀ x ∈ p3, x.block < W.heap.size := by obtain ⟨m, hm⟩ := h3; exact DataW.trod_lt m _ _ _ hm
  have lt4 : ∀ x ∈ p4, x.block < W.heap.size := by obtain ⟨m, hm⟩ := h4; exact DataW.trod_lt m _ _ _ hm
  obtain ⟨f1, gh1⟩ := id h1
  obtain ⟨f2, gh2⟩ := id h2
  obtain ⟨f3, gh3⟩ := id h3
  obtain ⟨m1, va, vt, vp, vk, i1⟩ := open_view gh1
  obtain ⟨m2, L, has, i2, j2⟩ := open_stored gh2
  obtain ⟨m3, pr, M, sz, i3, j3⟩ := open_expl gh3
  obtain ⟨e0, e1, e2, hz⟩ : ∃ p q r, z4 = #[.int .i64 p, .int .i64 q, .int .i64 r] := by
    obtain ⟨m, hm⟩ := h4
    obtain ⟨p, q, r, hcs⟩ := el26 hm
    refine ⟨p, q, r, ?_⟩
    cases z4
    simpa [Value.cells] using hcs
  subst hz
  clear hA0 hval0
  simp only [List.append_nil] at hW'
  have hcall : Calls Yba.prog 3 #[.int .u8 a0, .slice x1 n1 c1, .slice x2 n2 c2, .slice x3 n3 c3, .agg #[.int .i64 e0, .int .i64 e1, .int .i64 e2]] W fun e w' => e = .returned (.bool true) ∧ Below W.heap.size W w' := by
    by_cases hlong : n1 = 0 ∨ 1024 < n1 ∨ 1024 < n2 ∨ 1024 < n3
    · exact lrn_long a0 e0 e1 e2 x1 x2 x3 n1 c1 n2 c2 n3 c3 W m1 m2 m3 hlong
    · have r0 := u8_rngL w0
      obtain ⟨b0, rfl⟩ : ∃ b : Nat, a0 = b := ⟨a0.toNat, by omega⟩
      exact lrn_walk b0 e0 e1 e2 x1 x2 x3 n1 c1 n2 c2 n3 c3 va vt vp vk L has pr M sz W (by omega) (by omega) (by omega) (by omega) (by omega) ⟨i1, i2, j2, i3, j3⟩
  refine hcall.mono fun e W' ⟨he, bel⟩ => ?_
  subst he
  have back : ∀ {t : TypeId} {v : Value} {d : DataW H} {ps : List MemPlace}, Yba.prog.readableRec t = true → t < Yba.prog.types.size → DataW.Trod enc Yba.prog W 0 (fun _ => true) true t v d ps → (∀ x ∈ ps, x.block < W.heap.size) → DataW.Trod enc Yba.prog W' 0 (fun b => decide (b < W.heap.size)) true t v d ps :=
    fun hr hrow h hlt => Below.trod Yba.laidOutL hr hrow h bel hlt
  exact ⟨_, rfl, _, _, _, [], _, [], hW', trodAll_mk1 (shut_bool Yba.underlying4 _), (trodAll_cons_mk (shut_int Yba.underlying5 w0) (trodAll_cons_mk (back (by kernel_rfl) (of_decide_eq_true (by kernel_rfl)) h1 lt1) (trodAll_cons_mk (back (by kernel_rfl) (of_decide_eq_true (by kernel_rfl)) h2 lt2) (trodAll_cons_mk (back (by kernel_rfl) (of_decide_eq_true (by kernel_rfl)) h3 lt3)
    (trodAll_cons_mk (back (by kernel_rfl) (of_decide_eq_true (by kernel_rfl)) h4 lt4) trodAll_mk0))))), rfl, bel.frame _, fun h => by cases h⟩

theorem lrn_over : Rows.lawS4370ALearnRow.holds Yba.pinned (OpenSpec.ofChange Rows.lawS4370ALearnSpec) :=
  OpenClaim.holds_of_wide 3 Yba.f3 rfl rfl rfl rfl rfl rfl rfl ⟨rfl, rfl, rfl, rfl, rfl⟩ rfl rfl rfl rfl rfl (by kernel_rfl) Yba.func3 (by kernel_rfl)
    (of_decide_eq_true (by kernel_rfl)) (by unfold Func.isWrapper; first | (rw [if_pos (by decide +kernel)]; kernel_rfl) | (rw [if_neg (by decide +kernel)]; exact ⟨rfl, rfl⟩))
    (fun os started H enc _ => lrn_lifted os started H enc)

theorem learn_proved : Rows.LawS4370ALearnSaid :=
  lrn_over
#print axioms learn_proved
end Go.Proofs.Ybulkclmc
