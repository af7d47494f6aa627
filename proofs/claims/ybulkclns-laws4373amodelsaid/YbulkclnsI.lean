import Derived.Test.YbulkclnsH
namespace Go.Proofs.Ybulkclns
open Go.RowKit

theorem Yba.info2c : (Yba.prog.info? 2).map (fun i => (i.zero, i.size, i.bytes)) = some (some (.int .i64 0), 1, 8) := by kernel_rfl

set_option maxRecDepth 100000 in
theorem clone_any (b n : Nat) (f : Nat → Value) (w : World) (hn : 0 < n) (hn2 : n ≤ 1024) (hC : Cells w b n f) (h1 : ∀ i, i < n → (f i).oneCell' = true) :
    Calls Yba.prog 7 #[.slice (some ⟨b, 0, none⟩) n n] w fun e w' => ∃ g c, e = .returned (.slice (some ⟨g, 0, none⟩) n c) ∧ w.heap.size ≤ g ∧ Cells w' g n f ∧ Below w.heap.size w w' := by
  obtain ⟨i2, hi2, hz0, hz1, hz2⟩ := info_parts Yba.info2c
  have q24 : ∀ (w : World) (a : Option Addr) (n c : Nat), (binOp .eql 24 (.slice a n c) (.slice none 0 0)).run Yba.prog w = .ok (.bool a.isNone) w := fun w a n c => Lib.run_eql_slice_nil w 24 2 a n c 0 0 Yba.underlying24
  have hown : (w.alloc (Obj.cells #[] 2)).ownsRow w.heap.size 2 1 (.slice (some ⟨w.heap.size, 0, none⟩) 0 0) 0 [] := ⟨rfl, Or.inr ⟨w.heap.size, 0, #[], rfl, Nat.le_refl _, by show (w.heap.push _)[w.heap.size]? = _; simp, Nat.le_refl _, Nat.zero_le _, rfl, rfl⟩⟩
  have hb0 : Below w.heap.size w (w.alloc (Obj.cells #[] 2)) := (Below.refl _ _).alloc (Nat.le_refl _) _
  have hC0 := hC.later hb0
  have hnews : ∀ j u, ((List.range n).map f)[j]? = some u → (w.alloc (Obj.cells #[] 2)).cell? ((⟨b, 0, none⟩ : Addr).add j) = some u := by
    intro j u hu
    by_cases hj : j < n
    · simp [hj] at hu
      rw [← hu, ← hC0.cell j hj]
      by_cases e : j = 0 <;> simp [Addr.add, e]
    · simp [hj] at hu
  have hone : ∀ u ∈ (List.range n).map f, u.oneCell' = true := by
    intro u hu
    obtain ⟨i, hi, rfl⟩ := List.mem_map.1 hu
    exact h1 i (List.mem_range.1 hi)
  go_enter Yba.func7, Yba.ntmps7
  go_wp2_with (first | (at_builtin; refine wpList_append_lies _ rfl (.tmp 5) (.tmp 6) 24 rfl w.heap.size 2 i2 (.int .i64 0) 1 8 Yba.underlying24 hi2 hz0 hz1 hz2 rfl (by decide) (.slice (some ⟨w.heap.size, 0, none⟩) 0 0) 0 [] rfl hown ⟨b, 0, none⟩ n n ((List.range n).map f) rfl (by simp) hnews hone hn (by unfold maxLen; omega) (by omega) (by simp) (w.heap.size + 1) (by simp) ?_; intro g cap w2 hown2 hgrow2 hlies hg2) | fail)
  have hb2 := hb0.grown hgrow2 (by simp) (by simp [Value.ownBlock])
  have hC2 := Cells.owned hown2 hg2
  go_ret
  refine ⟨g, cap, by simp, ?_, ?_, hb2⟩
  · rcases hlies with h | h
    · simp [Value.ownBlock] at h; omega
    · omega
  · rw [Nat.zero_add, Nat.mul_one] at hC2
    refine hC2.congr fun i hi => ?_
    simp [List.getD, hi]

set_option maxRecDepth 100000 in
theorem equal_any (A B n c1 c2 : Nat) (f : Nat → Int) (w : World) (hn : n ≤ 1024) (hA : ∀ i, i < n → w.cell? ⟨A, i, none⟩ = some (.int .i64 (f i))) (hB : ∀ i, i < n → w.cell? ⟨B, i, none⟩ = some (.int .i64 (f i))) :
    Calls Yba.prog 8 #[.slice (some ⟨A, 0, none⟩) n c1, .slice (some ⟨B, 0, none⟩) n c2] w fun e w' => e = .returned (.bool true) ∧ Below w.heap.size w w' := by
  have HA : Hid ((∀ i, i < n → w.cell? ⟨A, i, none⟩ = some (.int .i64 (f i))) ∧ ∀ i, i < n → w.cell? ⟨B, i, none⟩ = some (.int .i64 (f i))) := ⟨hA, hB⟩
  clear hA hB
  go_enter Yba.func8, Yba.ntmps8
  go_wp2_with fail
  go_loopw [13] (fun s wr => ∃ k : Nat, k ≤ n ∧ s = .int .i64 k ∧ Below w.heap.size w wr) (fun s _ => n - (intOf s).toNat)
  case atStart => exact ⟨0, Nat.zero_le _, rfl, Below.refl _ _⟩
  case round =>
    obtain ⟨k, hk, rfl, hb⟩ := hrel
    by_cases hlt : k < n
    · have c0 := cell_later hb (HA.out.1 k hlt)
      have c1 := cell_later hb (HA.out.2 k hlt)
      have i1 : (0 : Int) ≤ (k : Int) := by omega
      have i2 : (k : Int) < (n : Int) := by omega
      generalize f k = y at *
      have g : (y != y) = false := by simp
      go_upto_region 6 with fail
      go_quiet (fail)
      go_wp2_with fail
      go_roundw
      case rel => exact ⟨k + 1, by omega, by go_num, bl_drewN hb _⟩
      case measure => simp [intOf]; omega
    · obtain rfl : n = k := by omega
      go_wp2_with fail
      go_ret
      exact ⟨rfl, hb⟩
end Go.Proofs.Ybulkclns
