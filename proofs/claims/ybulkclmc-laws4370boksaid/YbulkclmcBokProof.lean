import Derived.Test.YbulkclmcBokN
import Derived.ProofKit
import Derived.OpenShut
import Derived.ShutString
import Derived.Deep.Grids
import Derived.Carry
namespace Go.Proofs.Ybulkclmc
open Go.ChangeShapes Go.WideShapes Go.ChangeAt Go.RowKit

theorem Yba.ownB : ownKnob Yba.prog.godebug = none := by kernel_rfl
theorem Yba.laidOutB : laidOutB Yba.prog = true := by kernel_rfl
theorem Yba.cells3b : Yba.prog.cellsOf 3 = 1 := by kernel_rfl
theorem Yba.cells4b : Yba.prog.cellsOf 4 = 1 := by kernel_rfl
theorem Yba.cells5b : Yba.prog.cellsOf 5 = 1 := by kernel_rfl
theorem Yba.cells70 : Yba.prog.cellsOf 70 = 1 := by kernel_rfl
theorem Yba.cells72 : Yba.prog.cellsOf 72 = 2 := by kernel_rfl
theorem Yba.cells74 : Yba.prog.cellsOf 74 = 3 := by kernel_rfl

theorem u8_rngB {n : Int} (h : (Lit.int .u8 n).wf = true) : 0 ≤ n ∧ n ≤ 255 := by
  simpa [Lit.wf, IntKind.min, IntKind.max, IntKind.signed, IntKind.bits] using h

section
variable {H : Type} {enc : TypeId × Value → H} {W : World}

/-- a slice of structs, opened at every index -/
theorem open_rowsB {t e sz fuel : Nat} {a0 : Option Addr} {len cap : Nat} {x : DataW H × List MemPlace} (ht : Yba.prog.underlying t = some (.slice e)) (hc : Yba.prog.cellsOf e = sz) (hsz : 0 < sz)
    (h : DataW.trod enc Yba.prog W 0 (fun _ => true) true fuel t [.slice a0 len cap] = some x) :
    len ≤ 9223372036854775807 ∧ (a0 = none → len = 0) ∧ (0 < len → ∃ b o n, a0 = some ⟨b, o, none⟩ ∧ ∀ i, i < len → ∃ cs y, cs.length = sz ∧ (∀ j, j < sz → W.cell? ⟨b, o + i * sz + j, none⟩ = cs[j]?) ∧ DataW.trod enc Yba.prog W 0 (fun _ => true) true n e cs = some y) := by
  rcases Deep.open_slice ht h with ⟨hcs, _⟩ | ⟨a, l, c, m, n, D, Pl, hcs, _, hl, hm, hmm, _, hx⟩
  · simp at hcs
    obtain ⟨rfl, rfl, rfl⟩ := hcs
    exact ⟨by omega, fun _ => rfl, fun h => by omega⟩
  · simp at hcs
    obtain ⟨rfl, rfl, rfl⟩ := hcs
    simp only [if_true] at hmm
    subst hmm
    refine ⟨by unfold maxLen at hm; omega, (fun h => by cases h), fun hp => ?_⟩
    have hs : a.spot = none := by
      obtain ⟨cs, h1, _⟩ := hx 0 (by omega)
      obtain ⟨_, hlen, hcell⟩ := World.cells?_some h1
      have h0 := hcell 0 (by omega)
      rw [Deep.add_add] at h0
      simp at h0
      cases hsp : a.spot with
      | none => rfl
      | some k =>
        exfalso
        rw [List.getElem?_eq_getElem (by omega)] at h0
        unfold World.cell? at h0
        simp [Addr.add, hsp] at h0
        split at h0 <;> simp at h0
    obtain ⟨b, o, s⟩ := a
    subst hs
    refine ⟨b, o, n, rfl, fun i hi => ?_⟩
    obtain ⟨cs, h1, h2⟩ := hx i (by omega)
    obtain ⟨_, hlen, hcell⟩ := World.cells?_some h1
    rw [hc] at hlen hcell
    refine ⟨cs, _, hlen, fun j hj => ?_, h2⟩
    have h0 := hcell j hj
    rw [Deep.add_add] at h0
    rw [← h0]
    by_cases e0 : i * sz + j = 0
    · have : i * sz = 0 ∧ j = 0 := by omega
      simp [Addr.add, this.1, this.2]
    · unfold Addr.add
      rw [if_neg e0]
      simp [Nat.add_assoc]


theorem open_doms {fuel : Nat} {a0 : Option Addr} {len cap : Nat} {x : DataW H × List MemPlace} (h : DataW.trod enc Yba.prog W 0 (fun _ => true) true fuel 37 [.slice a0 len cap] = some x) :
    len ≤ 9223372036854775807 ∧ ∃ f : Nat → Int, SlB W a0 len (fun i => .int .i64 (f i)) := by
  obtain ⟨hm, _, hp⟩ := open_rowsB Yba.underlying37 Yba.cells3b (by omega) h
  refine ⟨hm, ?_⟩
  by_cases h0 : 0 < len
  · obtain ⟨b, o, k, rfl, hx⟩ := hp h0
    obtain ⟨f, hf⟩ := Deep.choose_lt (α := Int) (p := fun i q => W.cell? ⟨b, o + i, none⟩ = some (.int .i64 q)) (fun i hi => by
      obtain ⟨cs, y, hl, hcell, ht⟩ := hx i hi
      obtain ⟨z, rfl, _⟩ := DataW.trod_int Yba.underlying3 ht
      exact ⟨z, by simpa using hcell 0 (by omega)⟩)
    exact ⟨f, ⟨fun _ => ⟨b, o, rfl, hf⟩⟩⟩
  · exact ⟨fun _ => 0, ⟨fun h => absurd h h0⟩⟩

theorem open_prns {fuel : Nat} {a0 : Option Addr} {len cap : Nat} {x : DataW H × List MemPlace} (h : DataW.trod enc Yba.prog W 0 (fun _ => true) true fuel 41 [.slice a0 len cap] = some x) :
    len ≤ 9223372036854775807 ∧ ∃ f : Nat → Bool, SlB W a0 len (fun i => .bool (f i)) := by
  obtain ⟨hm, _, hp⟩ := open_rowsB Yba.underlying41 Yba.cells4b (by omega) h
  refine ⟨hm, ?_⟩
  by_cases h0 : 0 < len
  · obtain ⟨b, o, k, rfl, hx⟩ := hp h0
    obtain ⟨f, hf⟩ := Deep.choose_lt (α := Bool) (p := fun i q => W.cell? ⟨b, o + i, none⟩ = some (.bool q)) (fun i hi => by
      obtain ⟨cs, y, hl, hcell, ht⟩ := hx i hi
      obtain ⟨z, rfl, _⟩ := DataW.trod_bool Yba.underlying4 ht
      exact ⟨z, by simpa using hcell 0 (by omega)⟩)
    exact ⟨f, ⟨fun _ => ⟨b, o, rfl, hf⟩⟩⟩
  · exact ⟨fun _ => false, ⟨fun h => absurd h h0⟩⟩

set_option maxRecDepth 100000 in
theorem el74 {fuel : Nat} {cs : List Value} {x : DataW H × List MemPlace} (h : DataW.trod enc Yba.prog W 0 (fun _ => true) true fuel 74 cs = some x) : ∃ (p : Nat) (q r : Int), p ≤ 255 ∧ cs = [.int .u8 p, .int .i64 q, .int .i64 r] := by
  obtain ⟨xs, k, _, _, hl, hxl, hf⟩ := DataW.trod_struct Yba.underlying74 h
  rw [Yba.cells74] at hl
  match xs, hxl, cs, hl with
  | [y0, y1, y2], _, [v0, v1, v2], _ =>
    have g0 := hf 0 _ rfl
    have g1 := hf 1 _ rfl
    have g2 := hf 2 _ rfl
    simp [Yba.cells3b, Yba.cells5b] at g0 g1 g2
    obtain ⟨a, ha, _, hw⟩ := DataW.trod_int Yba.underlying5 g0
    obtain ⟨b, hb, _⟩ := DataW.trod_int Yba.underlying3 g1
    obtain ⟨c, hc, _⟩ := DataW.trod_int Yba.underlying3 g2
    simp at ha hb hc
    have hr := u8_rngB hw
    refine ⟨a.toNat, b, c, by omega, ?_⟩
    rw [ha, hb, hc, Int.toNat_of_nonneg hr.1]

theorem open_lb {fuel : Nat} {v : Value} {x : DataW H × List MemPlace} (h : DataW.trod enc Yba.prog W 0 (fun _ => true) true fuel 70 [v] = some x) : ∃ q : Option Addr × Nat × Nat × (Nat → Nat) × (Nat → Int) × (Nat → Int), v = .slice q.1 q.2.1 q.2.2.1 ∧ LbIn W ⟨q.1, q.2.1, q.2.2.1, q.2.2.2.1, q.2.2.2.2.1, q.2.2.2.2.2⟩ ∧ q.2.1 ≤ 9223372036854775807 := by
  obtain ⟨p, n, c, rfl⟩ : ∃ p n c, v = .slice p n c := by
    rcases Deep.open_slice Yba.underlying70 h with ⟨hcs, _⟩ | ⟨a, l, c, m, n, D, Pl, hcs, _⟩
    · simp at hcs; exact ⟨_, _, _, hcs⟩
    · simp at hcs; exact ⟨_, _, _, hcs⟩
  obtain ⟨hm, hn, hp⟩ := open_rowsB Yba.underlying70 Yba.cells74 (by omega) h
  by_cases h0 : 0 < n
  · obtain ⟨b, o, k, rfl, hx⟩ := hp h0
    obtain ⟨f, hf⟩ := Deep.choose_lt (α := Nat × Int × Int) (p := fun i q => q.1 ≤ 255 ∧ W.cell? ⟨b, o + i * 3, none⟩ = some (.int .u8 q.1) ∧ W.cell? ⟨b, o + i * 3 + 1, none⟩ = some (.int .i64 q.2.1) ∧ W.cell? ⟨b, o + i * 3 + 2, none⟩ = some (.int .i64 q.2.2)) (fun i hi => by
      obtain ⟨cs, y, hl, hcell, ht⟩ := hx i hi
      obtain ⟨p, q, r, hp, rfl⟩ := el74 ht
      exact ⟨(p, q, r), hp, hcell 0 (by omega), hcell 1 (by omega), hcell 2 (by omega)⟩)
    refine ⟨(some ⟨b, o, none⟩, n, c, fun i => if i < n then (f i).1 else 0, fun i => (f i).2.1, fun i => (f i).2.2), rfl, ⟨fun _ => ⟨b, o, rfl, fun i hi => ?_⟩, fun i => ?_⟩, hm⟩
    · have hi' : i < n := hi
      obtain ⟨_, q0, q1, q2⟩ := hf i hi'
      simp only [hi', if_true]
      exact ⟨q0, q1, q2⟩
    · show (if i < n then (f i).1 else 0) ≤ 255
      split
      · next hi => exact (hf i hi).1
      · omega
  · exact ⟨(p, n, c, fun _ => 0, fun _ => 0, fun _ => 0), rfl, ⟨fun h => absurd h h0, fun _ => Nat.zero_le _⟩, hm⟩

set_option maxRecDepth 100000 in
theorem el72 {fuel : Nat} {cs : List Value} {x : DataW H × List MemPlace} (h : DataW.trod enc Yba.prog W 0 (fun _ => true) true fuel 72 cs = some x) : ∃ (s : Bool) (q : Option Addr × Nat × Nat × (Nat → Nat) × (Nat → Int) × (Nat → Int)), cs = [.bool s, .slice q.1 q.2.1 q.2.2.1] ∧ LbIn W ⟨q.1, q.2.1, q.2.2.1, q.2.2.2.1, q.2.2.2.2.1, q.2.2.2.2.2⟩ ∧ q.2.1 ≤ 9223372036854775807 := by
  obtain ⟨xs, k, _, _, hl, hxl, hf⟩ := DataW.trod_struct Yba.underlying72 h
  rw [Yba.cells72] at hl
  match xs, hxl, cs, hl with
  | [y0, y1], _, [v0, v1], _ =>
    have g0 := hf 0 _ rfl
    have g1 := hf 1 _ rfl
    simp [Yba.cells70, Yba.cells4b] at g0 g1
    obtain ⟨d, hd, _⟩ := DataW.trod_bool Yba.underlying4 g0
    obtain ⟨q, rfl, h1, h2⟩ := open_lb g1
    simp at hd
    exact ⟨d, q, by rw [hd], h1, h2⟩

theorem open_ngs {fuel : Nat} {a0 : Option Addr} {len cap : Nat} {x : DataW H × List MemPlace} (h : DataW.trod enc Yba.prog W 0 (fun _ => true) true fuel 69 [.slice a0 len cap] = some x) :
    len ≤ 9223372036854775807 ∧ ∃ (L : Nat → Lb) (has : Nat → Bool), NgIn a0 len L has W ∧ ∀ i, i < len → (L i).n ≤ 9223372036854775807 := by
  obtain ⟨hm, _, hp⟩ := open_rowsB Yba.underlying69 Yba.cells72 (by omega) h
  refine ⟨hm, ?_⟩
  by_cases h0 : 0 < len
  · obtain ⟨b, o, k, rfl, hx⟩ := hp h0
    obtain ⟨f, hf⟩ := Deep.choose_lt (α := Bool × Option Addr × Nat × Nat × (Nat → Nat) × (Nat → Int) × (Nat → Int)) (p := fun i q => (W.cell? ⟨b, o + i * 2, none⟩ = some (.bool q.1) ∧ W.cell? ⟨b, o + i * 2 + 1, none⟩ = some (.slice q.2.1 q.2.2.1 q.2.2.2.1)) ∧ LbIn W ⟨q.2.1, q.2.2.1, q.2.2.2.1, q.2.2.2.2.1, q.2.2.2.2.2.1, q.2.2.2.2.2.2⟩ ∧ q.2.2.1 ≤ 9223372036854775807) (fun i hi => by
      obtain ⟨cs, y, hl, hcell, ht⟩ := hx i hi
      obtain ⟨s, q, rfl, h1, h2⟩ := el72 ht
      exact ⟨(s, q), ⟨hcell 0 (by omega), hcell 1 (by omega)⟩, h1, h2⟩)
    exact ⟨fun i => ⟨(f i).2.1, (f i).2.2.1, (f i).2.2.2.1, (f i).2.2.2.2.1, (f i).2.2.2.2.2.1, (f i).2.2.2.2.2.2⟩, fun i => (f i).1, ⟨fun _ => ⟨b, o, rfl, fun i hi => (hf i hi).1⟩, fun i hi => (hf i hi).2.1⟩, fun i hi => (hf i hi).2.2⟩
  · exact ⟨fun _ => ⟨none, 0, 0, fun _ => 0, fun _ => 0, fun _ => 0⟩, fun _ => false, ⟨fun h => absurd h h0, fun i hi => by omega⟩, fun i hi => by omega⟩
end

set_option maxRecDepth 100000 in
theorem bok_lifted (os : Os) (started : os.Started) (H : Type) (enc : TypeId × Value → H) :
    ReturnsInHanded {} Yba.checked os 4 .any (Rows.lawS4370BOkSpec.pre6 enc Yba.prog Yba.f4 Rows.lawS4370BOkRow.domain false) (Rows.lawS4370BOkSpec.post enc Yba.prog Yba.f4 false true false false) := by
  refine returnsInHanded_of_change (C := Yba.checked) Yba.ownB started (by kernel_rfl) Yba.func4
    (ChangeSpec.witness6 (enc := enc) (C := Yba.checked) false ⟨#[], #[.int .u8 0, .int .u8 0, .int .u8 0, .bool false, .slice none 0 0, .slice none 0 0, .slice none 0 0, .int .u8 0, .int .i64 0], []⟩ 8 (by kernel_rfl) (by kernel_rfl) (by kernel_rfl) (by kernel_rfl)) ?_
  intro W base args ds gs before hval0 hW hcnd _
  have hval : ∀ (j : Nat) t v, Yba.f4.params[j]? = some t → args[j]? = some v → Value.okWide Yba.prog W .any base t v := hval0
  have hW' := hW
  obtain ⟨p, q, hA0, hV, rfl, hfz, hnd⟩ := hW
  have hA : DataW.TrodAll enc Yba.prog W 0 (fun _ => true) true Yba.f4.params.toList args.toList ds p := hA0
  rw [Yba.params4] at hA hval
  obtain ⟨v0, vs0, d0, ds0, p0, q0, hargs, rfl, rfl, h0, r0⟩ := trodAll_cons hA
  obtain ⟨v1, vs1, d1, ds1, p1, q1, rfl, rfl, rfl, h1, r1⟩ := trodAll_cons r0
  obtain ⟨v2, vs2, d2, ds2, p2, q2, rfl, rfl, rfl, h2, r2⟩ := trodAll_cons r1
  obtain ⟨v3, vs3, d3, ds3, p3, q3, rfl, rfl, rfl, h3, r3⟩ := trodAll_cons r2
  obtain ⟨v4, vs4, d4, ds4, p4, q4, rfl, rfl, rfl, h4, r4⟩ := trodAll_cons r3
  obtain ⟨v5, vs5, d5, ds5, p5, q5, rfl, rfl, rfl, h5, r5⟩ := trodAll_cons r4
  obtain ⟨v6, vs6, d6, ds6, p6, q6, rfl, rfl, rfl, h6, r6⟩ := trodAll_cons r5
  obtain ⟨v7, vs7, d7, ds7, p7, q7, rfl, rfl, rfl, h7, r7⟩ := trodAll_cons r6
  obtain ⟨v8, vs8, d8, ds8, p8, q8, rfl, rfl, rfl, h8, r8⟩ := trodAll_cons r7
  obtain ⟨rfl, rfl, rfl⟩ := trodAll_nil r8
  obtain rfl : args = #[v0, v1, v2, v3, v4, v5, v6, v7, v8] := by cases args; simp_all
  obtain ⟨rfl, rfl⟩ := trodVars_none hV
  obtain ⟨a0, rfl, rfl, rfl, w0⟩ := open_int Yba.underlying5 (hval 0 5 v0 rfl rfl) h0
  obtain ⟨a1, rfl, rfl, rfl, w1⟩ := open_int Yba.underlying5 (hval 1 5 v1 rfl rfl) h1
  obtain ⟨a2, rfl, rfl, rfl, w2⟩ := open_int Yba.underlying5 (hval 2 5 v2 rfl rfl) h2
  obtain ⟨a3, rfl, rfl, rfl⟩ := open_bool Yba.underlying4 (hval 3 4 v3 rfl rfl) h3
  obtain ⟨x4, n4, c4, rfl⟩ := okWide_slice Yba.underlying37 (hval 4 37 v4 rfl rfl)
  obtain ⟨x5, n5, c5, rfl⟩ := okWide_slice Yba.underlying69 (hval 5 69 v5 rfl rfl)
  obtain ⟨x6, n6, c6, rfl⟩ := okWide_slice Yba.underlying41 (hval 6 41 v6 rfl rfl)
  obtain ⟨a7, rfl, rfl, rfl, w7⟩ := open_int Yba.underlying5 (hval 7 5 v7 rfl rfl) h7
  obtain ⟨a8, rfl, rfl, rfl, w8⟩ := open_int Yba.underlying3 (hval 8 3 v8 rfl rfl) h8
  have lt4 : ∀ x ∈ p4, x.block < W.heap.size := by obtain ⟨m, hm⟩ := h4; exact DataW.trod_lt m _ _ _ hm
  have lt5 : ∀ x ∈ p5, x.block < W.heap.size := by obtain ⟨m, hm⟩ := h5; exact DataW.trod_lt m _ _ _ hm
  have lt6 : ∀ x ∈ p6, x.block < W.heap.size := by obtain ⟨m, hm⟩ := h6; exact DataW.trod_lt m _ _ _ hm
  obtain ⟨f4, gh4⟩ := id h4
  obtain ⟨f5, gh5⟩ := id h5
  obtain ⟨f6, gh6⟩ := id h6
  obtain ⟨m4, dom, i4⟩ := open_doms gh4
  obtain ⟨m5, L, has, i5, j5⟩ := open_ngs gh5
  obtain ⟨m6, prn, i6⟩ := open_prns gh6
  clear hA0 hval0
  simp only [List.append_nil] at hW'
  have hcall : Calls Yba.prog 4 #[.int .u8 a0, .int .u8 a1, .int .u8 a2, .bool a3, .slice x4 n4 c4, .slice x5 n5 c5, .slice x6 n6 c6, .int .u8 a7, .int .i64 a8] W fun e w' => e = .returned (.bool true) ∧ Below W.heap.size W w' := by
    by_cases hlong : 300 < n5
    · exact bok_long a0 a1 a2 a7 a3 x4 x5 x6 n4 c4 n5 c5 n6 c6 a8 W hlong m5
    · have r0 := u8_rngB w0
      have r1 := u8_rngB w1
      have r2 := u8_rngB w2
      have r7 := u8_rngB w7
      obtain ⟨b0, rfl⟩ : ∃ b : Nat, a0 = b := ⟨a0.toNat, by omega⟩
      obtain ⟨b1, rfl⟩ : ∃ b : Nat, a1 = b := ⟨a1.toNat, by omega⟩
      obtain ⟨b2, rfl⟩ : ∃ b : Nat, a2 = b := ⟨a2.toNat, by omega⟩
      obtain ⟨b7, rfl⟩ : ∃ b : Nat, a7 = b := ⟨a7.toNat, by omega⟩
      exact bok_walk b0 b1 b2 b7 a3 x4 x5 x6 n4 c4 n5 c5 n6 c6 a8 dom prn has L W (by omega) (by omega) (by omega) (by omega) (by omega) m4 m6 i4 i6 i5 j5
  refine hcall.mono fun e W' ⟨he, bel⟩ => ?_
  subst he
  have back : ∀ {t : TypeId} {v : Value} {d : DataW H} {ps : List MemPlace}, Yba.prog.readableRec t = true → t < Yba.prog.types.size → DataW.Trod enc Yba.prog W 0 (fun _ => true) true t v d ps → (∀ x ∈ ps, x.block < W.heap.size) → DataW.Trod enc Yba.prog W' 0 (fun b => decide (b < W.heap.size)) true t v d ps :=
    fun hr hrow h hlt => Below.trod Yba.laidOutB hr hrow h bel hlt
  exact ⟨_, rfl, _, _, _, [], _, [], hW', trodAll_mk1 (shut_bool Yba.underlying4 _), (trodAll_cons_mk (shut_int Yba.underlying5 w0) (trodAll_cons_mk (shut_int Yba.underlying5 w1) (trodAll_cons_mk (shut_int Yba.underlying5 w2) (trodAll_cons_mk (shut_bool Yba.underlying4 _)
    (trodAll_cons_mk (back (by kernel_rfl) (of_decide_eq_true (by kernel_rfl)) h4 lt4) (trodAll_cons_mk (back (by kernel_rfl) (of_decide_eq_true (by kernel_rfl)) h5 lt5) (trodAll_cons_mk (back (by kernel_rfl) (of_decide_eq_true (by kernel_rfl)) h6 lt6)
    (trodAll_cons_mk (shut_int Yba.underlying5 w7) (trodAll_cons_mk (shut_int Yba.underlying3 w8) trodAll_mk0))))))))), rfl, bel.frame _, fun h => by cases h⟩

theorem bok_over : Rows.lawS4370BOkRow.holds Yba.pinned (OpenSpec.ofChange Rows.lawS4370BOkSpec) :=
  OpenClaim.holds_of_wide 4 Yba.f4 rfl rfl rfl rfl rfl rfl rfl ⟨rfl, rfl, rfl, rfl, rfl⟩ rfl rfl rfl rfl rfl (by kernel_rfl) Yba.func4 (by kernel_rfl)
    (of_decide_eq_true (by kernel_rfl)) (by unfold Func.isWrapper; first | (rw [if_pos (by decide +kernel)]; kernel_rfl) | (rw [if_neg (by decide +kernel)]; exact ⟨rfl, rfl⟩))
    (fun os started H enc _ => bok_lifted os started H enc)

theorem ok_proved : Rows.LawS4370BOkSaid :=
  bok_over
#print axioms ok_proved
end Go.Proofs.Ybulkclmc
