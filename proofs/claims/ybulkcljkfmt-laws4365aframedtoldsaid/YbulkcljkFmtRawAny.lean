import Derived.Test.YbulkcljkFmtRaw2
import Derived.ProofKit
import Derived.Stop.JoinedAt
import Derived.Stop.Texts
import Derived.Stop.JoinedTold
import Derived.SizedLaws
import Derived.ShutString
import Derived.SevenToldRow
namespace Go.Proofs.YbulkcljkFmt
open Go.ChangeShapes Go.WideShapes Go.ChangeAt Go.RowKit Go.Kit
open Go.ChangeMaps (open_string shut_string)
open Go.Extern.Stop Go.Stop Go.Extern

theorem raw_any (F : Interp) (p : Option Addr) (n c : Nat) (xs : List Int) (pe : Bool) (f : ByteArray) (w : World) (hF : F.answers w.tape) (hf : f.size ≤ 4611686018427387904) (hin : InB w p n c xs) :
    Calls Ybaf.prog 4 #[.slice p n c, .bool pe, .string f] w fun e w' => e = .returned (.bool true) ∧ Below w.heap.size w w' := by
  have hcap := hin.cap
  have hbig := hin.big
  by_cases h1 : 4096 < n
  · exact raw_long p n c pe f w h1 (by unfold maxLen at hbig; omega)
  cases pe with
  | true => exact raw_pre p n c xs f w hf (by omega) hin
  | false =>
    by_cases h2 : n < 4
    · exact raw_short F p n c xs f w hF hf h2 hin
    obtain ⟨b, o, rfl, _⟩ := hin.cells.at (by omega)
    have hr := be4_rng (xs.getD 0 0) (xs.getD 1 0) (xs.getD 2 0) (xs.getD 3 0) (hin.rng 0 (by omega)) (hin.rng 1 (by omega)) (hin.rng 2 (by omega)) (hin.rng 3 (by omega))
    by_cases h3 : ((n - 4 : Nat) : Int) < be4 (xs.getD 0 0) (xs.getD 1 0) (xs.getD 2 0) (xs.getD 3 0)
    · exact raw_over F b o n c xs _ _ _ _ f w hF hf (by omega) (by omega) hin rfl rfl rfl rfl h3 (by omega)
    · obtain ⟨N, hN⟩ := Int.eq_ofNat_of_zero_le hr.1
      exact raw_ok b o n c xs _ _ _ _ f w hf (by omega) (by omega) hin rfl rfl rfl rfl N hN (by omega) (by omega)

theorem size_list (s : ByteArray) : s.size = s.data.toList.length := Array.length_toList.symm

theorem Ybaf.own : ownKnob Ybaf.prog.godebug = none := by kernel_rfl
theorem Ybaf.laidOut : laidOutB Ybaf.pinned.checked.prog = true := by kernel_rfl
theorem Ybaf.cells5 : Ybaf.prog.cellsOf 5 = 1 := by kernel_rfl

theorem inB_of_open {W : World} {x : Addr} {len cap : Nat} {zs : List Int} (hl : len ≤ cap) (hm : cap ≤ maxLen) (hz : zs.length = cap)
    (hcell : ∀ i, i < zs.length → W.cell? (x.add i) = some (.int .u8 (zs.getD i 0))) (hwz : ∀ n ∈ zs, (Lit.int .u8 n).wf = true) : InB W (some x) len cap (zs.take len) := by
  have e : ∀ i, i < len → (zs.take len).getD i 0 = zs.getD i 0 := fun i hi => by simp [List.getD, hi]
  refine ⟨by simp; omega, by simp, hl, hm, ?_, ?_⟩
  · refine Lib.BytesIn.of_cells fun i hi => ?_
    rw [e i hi]
    exact hcell i (by omega)
  · intro i hi
    rw [e i hi]
    have hil : i < zs.length := by omega
    have hw := hwz (zs.getD i 0) (by simp [List.getD, hil])
    simpa [Lit.wf, IntKind.min, IntKind.max, IntKind.signed, IntKind.bits] using hw

theorem inB_nil (W : World) : InB W none 0 0 [] := ⟨rfl, fun _ => ⟨rfl, rfl⟩, Nat.le_refl _, Nat.zero_le _, Lib.BytesIn.nil _ _ _, fun i hi => by omega⟩

set_option maxRecDepth 100000 in
theorem raw_lifted (os : Os) (started : os.Started) (H : Type) (enc : TypeId × Value → H) :
    ReturnsInTold none {} Ybaf.checked os 4 .any Input.okWide ((OpenSpec.ofChange Rows.lawS4365ARawSpec).preRow enc Ybaf.prog Ybaf.f4 [] false []) (fun F => ((OpenSpec.ofChange Rows.lawS4365ARawSpec).at F).post enc Ybaf.prog Ybaf.f4 false true false false) (aloneAtReturn Ybaf.prog) nothingAlways := by
  refine returnsInTold_of_row (C := Ybaf.checked) (s := OpenSpec.ofChange Rows.lawS4365ARawSpec) (by kernel_rfl) Ybaf.own started (by kernel_rfl) Ybaf.func4
    (OpenSpec.witness_stopped (enc := enc) (C := Ybaf.checked) false ⟨#[], #[.slice none 0 0, .bool false, .string ⟨#[]⟩], []⟩ 8 (by kernel_rfl) (by kernel_rfl) (by kernel_rfl) (by kernel_rfl)) ?_
  intro F W base args ds gs before _ hF hval0 hW _ _ hsz _ _
  have hval : ∀ (j : Nat) t v, Ybaf.f4.params[j]? = some t → args[j]? = some v → Value.okWide Ybaf.prog W .any base t v := hval0
  have hW' := hW
  obtain ⟨p, q, hA0, hV, rfl, _, _⟩ := hW
  have hA : DataW.TrodAll enc Ybaf.prog W 0 (fun _ => true) true Ybaf.f4.params.toList args.toList ds p := hA0
  rw [Ybaf.params4] at hA hval
  obtain ⟨v0, v1, v2, d0, d1, d2, p0, p1, p2, rfl, rfl, rfl, h0, h1, h2⟩ := trodAll_three hA
  obtain ⟨rfl, rfl⟩ := trodVars_none hV
  obtain ⟨a0, len, cap, rfl⟩ := okWide_slice Ybaf.underlying22 (hval 0 22 v0 rfl rfl)
  obtain ⟨pe, rfl, rfl, rfl⟩ := open_bool Ybaf.underlying4 (hval 1 4 v1 rfl rfl) h1
  obtain ⟨s, rfl, rfl, rfl, hs⟩ := open_string Ybaf.underlying9 (hval 2 9 v2 rfl rfl) h2
  have h0k := h0
  have lt0 : ∀ x ∈ p0, x.block < W.heap.size := by obtain ⟨m, hm⟩ := h0k; exact DataW.trod_lt m _ _ _ hm
  obtain ⟨fuel, hf⟩ := h0
  clear hA0 hval0
  have hlen : s.data.toList.length ≤ reachBytes := sized_string hsz (j := 2) (t := 9) rfl rfl
  have hr47 := reachBytes_lt
  have hfs : s.size ≤ 4611686018427387904 := by
    rw [size_list]
    exact Nat.le_trans hlen (Nat.le_trans (Nat.le_of_lt hr47) (by decide))
  obtain ⟨xs, hin⟩ : ∃ xs, InB W a0 len cap xs := by
    rcases open_ints Ybaf.underlying22 Ybaf.underlying5 Ybaf.cells5 hf with ⟨hcs, _⟩ | ⟨x, l, c, zs, hcs, _, hl, hm, hz, _, hcell, hwz⟩
    · simp [Value.cells] at hcs
      obtain ⟨rfl, rfl, rfl⟩ := hcs
      exact ⟨[], inB_nil W⟩
    · simp [Value.cells] at hcs
      obtain ⟨rfl, rfl, rfl⟩ := hcs
      exact ⟨_, inB_of_open hl hm (by simpa using hz) hcell hwz⟩
  refine (raw_any F.told a0 len cap xs pe s W hF hfs hin).mono fun e W' ⟨he, bel⟩ => ?_
  subst he
  exact ⟨_, rfl, _, _, _, [], _, [], hW', trodAll_mk1 (shut_bool Ybaf.underlying4 _), trodAll_mk3 (Below.trod Ybaf.laidOut (by kernel_rfl) (of_decide_eq_true (by kernel_rfl)) h0k bel lt0) (shut_bool Ybaf.underlying4 _) (shut_string Ybaf.underlying9 hs), rfl, bel.frame _, fun h => by cases h⟩

theorem Ybaf.stops : Ybaf.pinned.checked.prog.stops = ["fmt.errorf"] := by kernel_rfl
theorem Ybaf.stopKnobs : Ybaf.pinned.checked.prog.stopKnobs = [] := by kernel_rfl
theorem Ybaf.quiet (os : Os) : Stop.quiet Ybaf.pinned.checked.prog os := by
  intro k hk
  rw [Ybaf.stopKnobs] at hk
  cases hk

theorem raw_proved : Rows.LawS4365ARawToldSaid :=
  Claim7.holds_of_told_any 4 Ybaf.f4 "fmt.errorf" [] [] _ _ _ (by kernel_rfl) rfl rfl rfl Ybaf.laidOut (by kernel_rfl) rfl ⟨rfl, rfl, rfl, rfl, rfl, rfl, rfl⟩ rfl rfl (by kernel_rfl) (by kernel_rfl) Ybaf.func4 (by kernel_rfl)
    (of_decide_eq_true (by kernel_rfl)) (by unfold Func.isWrapper; first | (rw [if_pos (by decide +kernel)]; kernel_rfl) | (rw [if_neg (by decide +kernel)]; exact ⟨rfl, rfl⟩)) Ybaf.stops.symm rfl Ybaf.stopKnobs.symm (by kernel_rfl)
    (by kernel_rfl) (by kernel_rfl) (by kernel_rfl) (by kernel_rfl) (by kernel_rfl) (by kernel_rfl) (by kernel_rfl) (by kernel_rfl) (by kernel_rfl) rfl (by kernel_rfl) rfl rfl
    rfl rfl
    rfl (by kernel_rfl) (by kernel_rfl) (by kernel_rfl) (by decide) (by kernel_rfl)
    (OpenClaim.moreEntering_of (by kernel_rfl) (by kernel_rfl) (by kernel_rfl) (by kernel_rfl) (by kernel_rfl) (by kernel_rfl) (by kernel_rfl) (by kernel_rfl) (by kernel_rfl) (by kernel_rfl))
    ⟨_, WideRow.started_initial, Ybaf.quiet _⟩
    (fun os started _ H enc _ => raw_lifted os started H enc)

#print axioms raw_proved
end Go.Proofs.YbulkcljkFmt
