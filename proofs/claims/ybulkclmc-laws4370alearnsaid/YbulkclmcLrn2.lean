import Derived.Test.YbulkclmcLrn
import Derived.Deep.AppendLies
namespace Go.Proofs.Ybulkclmc
open Go.RowKit

theorem Yba.info61 : (Yba.prog.info? 61).map (fun i => (i.zero, i.size, i.bytes)) = some (some (.pointer none), 1, 8) := by kernel_rfl

/-- what an append hands over -/
theorem Cells.owned {w1 : World} {B e size g n cap : Nat} {xs : List Value} (h : w1.ownsRow B e size (.slice (some ⟨g, 0, none⟩) n cap) n xs) (hg : g < w1.heap.size) : Cells w1 g (n * size) (fun i => xs.getD i default) := by
  obtain ⟨hl, h | ⟨g', cap', cur, hv, _, hh, hnc, _, hs, ht⟩⟩ := h
  · simp at h
  · simp at hv
    obtain ⟨rfl, rfl⟩ := hv
    have hle : n * size ≤ cap * size := Nat.mul_le_mul_right _ hnc
    refine ⟨fun i hi => ?_, fun i hi => ?_, hg⟩
    · have e : (cur.toList.take (n * size))[i]? = xs[i]? := by rw [ht]
      rw [List.getElem?_take_of_lt hi] at e
      have hx : i < xs.length := by omega
      have hc : i < cur.size := by omega
      simp only [World.cell?, hh]
      simp [List.getD, hx] at e ⊢
      simpa [hc] using e
    · simp [World.frozen?, hh]

set_option maxRecDepth 100000 in
theorem clone_any (b n : Nat) (f : Nat → Value) (w : World) (hn : 0 < n) (hn2 : n ≤ 1024) (hC : Cells w b n f) (h1 : ∀ i, i < n → (f i).oneCell' = true) :
    Calls Yba.prog 9 #[.slice (some ⟨b, 0, none⟩) n n] w fun e w' => ∃ g c, e = .returned (.slice (some ⟨g, 0, none⟩) n c) ∧ w.heap.size ≤ g ∧ Cells w' g n f ∧ Below w.heap.size w w' := by
  obtain ⟨i61, hi61, hz0, hz1, hz2⟩ := info_parts Yba.info61
  have q36 : ∀ (w : World) (a : Option Addr) (n c : Nat), (binOp .eql 36 (.slice a n c) (.slice none 0 0)).run Yba.prog w = .ok (.bool a.isNone) w := fun w a n c => Lib.run_eql_slice_nil w 36 61 a n c 0 0 Yba.underlying36
  have hown : (w.alloc (Obj.cells #[] 61)).ownsRow w.heap.size 61 1 (.slice (some ⟨w.heap.size, 0, none⟩) 0 0) 0 [] := ⟨rfl, Or.inr ⟨w.heap.size, 0, #[], rfl, Nat.le_refl _, by show (w.heap.push _)[w.heap.size]? = _; simp, Nat.le_refl _, Nat.zero_le _, rfl, rfl⟩⟩
  have hb0 : Below w.heap.size w (w.alloc (Obj.cells #[] 61)) := (Below.refl _ _).alloc (Nat.le_refl _) _
  have hC0 := hC.later hb0
  have hnews : ∀ j u, ((List.range n).map f)[j]? = some u → (w.alloc (Obj.cells #[] 61)).cell? ((⟨b, 0, none⟩ : Addr).add j) = some u := by
    intro j u hu
    by_cases hj : j < n
    · simp [hj] at hu
      rw [← hu, ← hC0.cell j hj]
      by_cases e : j = 0 <;> simp [Addr.add, e]
    · simp [hj] at hu
  have hone : ∀ u ∈ (List.range n).map f, u.oneCell' = true := by
    intro u hu
    obtain ⟨i, hi, rfl⟩ := List.mem_map.1 hu
    exact h1 i (List.mem_range.1 hi)
  go_enter Yba.func9, Yba.ntmps9
  go_wp2_with (first | (at_builtin; refine wpList_append_lies _ rfl (.tmp 5) (.tmp 6) 36 rfl w.heap.size 61 i61 (.pointer none) 1 8 Yba.underlying36 hi61 hz0 hz1 hz2 rfl (by decide) (.slice (some ⟨w.heap.size, 0, none⟩) 0 0) 0 [] rfl hown ⟨b, 0, none⟩ n n ((List.range n).map f) rfl (by simp) hnews hone hn (by unfold maxLen; omega) (by omega) (by simp) (w.heap.size + 1) (by simp) ?_; intro g cap w2 hown2 hgrow2 hlies hg2) | fail)
  have hb2 := hb0.grown hgrow2 (by simp) (by simp [Value.ownBlock])
  have hC2 := Cells.owned hown2 hg2
  go_ret
  refine ⟨g, cap, by simp, ?_, ?_, hb2⟩
  · rcases hlies with h | h
    · simp [Value.ownBlock] at h; omega
    · omega
  · rw [Nat.zero_add, Nat.mul_one] at hC2
    refine hC2.congr fun i hi => ?_
    simp [List.getD, hi]
end Go.Proofs.Ybulkclmc
