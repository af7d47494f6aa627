import Derived.Test.YbulkclnsF
namespace Go.Proofs.Ybulkclns
open Go.RowKit

theorem Yba.info21g : (Yba.prog.info? 21).map (fun i => (i.zero, i.size, i.bytes)) = some (some (.int .i32 0), 1, 4) := by kernel_rfl

set_option maxRecDepth 100000 in
theorem len_any (VS VB kk : Nat) (w : World) (h : w.cell? ⟨VS, 0, none⟩ = some (.slice (some ⟨VB, 0, none⟩) kk kk)) :
    Calls Yba.prog 10 #[.pointer (some ⟨VS, 0, none⟩)] w fun e w' => e = .returned (.int .i64 kk) ∧ w' = w := by
  go_enter Yba.func10, Yba.ntmps10
  go_wp2
  go_ret
  exact ⟨rfl, rfl⟩

/-- a new height's state -/
structure NewHS (B HS kk : Nat) (w : World) : Prop where
  ex : ∃ RM FR, B ≤ RM ∧ w.cell? ⟨HS, 0, none⟩ = some (.map (some RM)) ∧ w.heap[RM]? = some (.map #[] 0) ∧ w.cell? ⟨HS, 3, none⟩ = some (.slice (some ⟨FR, 0, none⟩) kk kk)
  c1 : w.cell? ⟨HS, 1, none⟩ = some (.slice none 0 0)
  c2 : w.cell? ⟨HS, 2, none⟩ = some (.int .i64 0)
  lo : B ≤ HS

theorem NewHS.keeps {B HS kk : Nat} {S : Nat → Prop} {w w' : World} (h : NewHS B HS kk w) (k : Keeps S w w') (hS : ∀ b, B ≤ b → ¬ S b) : NewHS B HS kk w' := by
  obtain ⟨RM, FR, h0, h1, h2, h3⟩ := h.ex
  have hl := hS HS h.lo
  refine ⟨⟨RM, FR, h0, k.cell hl h1, ?_, k.cell hl h3⟩, k.cell hl h.c1, k.cell hl h.c2, h.lo⟩
  rw [k.block RM (by
    rcases Nat.lt_or_ge RM w.heap.size with hlt | hge
    · exact hlt
    · rw [Array.getElem?_eq_none hge] at h2; cases h2) (hS RM h0)]
  exact h2
theorem NewHS.later {B HS kk : Nat} {w w' : World} (h : NewHS B HS kk w) (hb : Below w.heap.size w w') : NewHS B HS kk w' :=
  h.keeps (S := fun _ => False) (Keeps.of_below hb) (fun _ _ h => h)
theorem NewHS.mono {B B' HS kk : Nat} {w : World} (h : NewHS B HS kk w) (hB : B' ≤ B) : NewHS B' HS kk w := by
  obtain ⟨RM, FR, h0, h1, h2, h3⟩ := h.ex
  exact ⟨⟨RM, FR, by omega, h1, h2, h3⟩, h.c1, h.c2, Nat.le_trans hB h.lo⟩

set_option maxRecDepth 100000 in
set_option maxHeartbeats 400000 in
theorem nhs_any (VS VB kk : Nat) (w : World) (h : w.cell? ⟨VS, 0, none⟩ = some (.slice (some ⟨VB, 0, none⟩) kk kk)) (hk : kk ≤ 6) :
    Calls Yba.prog 5 #[.pointer (some ⟨VS, 0, none⟩)] w fun e w' => ∃ HS, e = .returned (.pointer (some ⟨HS, 0, none⟩)) ∧ NewHS w.heap.size HS kk w' ∧ Below w.heap.size w w' := by
  have hmk := run_make_row' (P := Yba.prog) 71 21 (.int .i32 0) 4 Yba.underlying71 Yba.info21g rfl .i64 .i64 kk (by omega) (by omega)
  have hmm : ∀ w, (Instr.makeMap 69 none).run Yba.prog w = .ok (.map (some w.heap.size)) (w.alloc (.map #[] 0)) := fun w => rfl
  have hb0 : Below w.heap.size w (w.alloc (.map #[] 0)) := bl_new (Below.refl _ _) _
  have h' := cell_later hb0 h
  go_enter Yba.func5, Yba.ntmps5
  go_wp2_with fail
  refine (len_any VS VB kk _ h').mono ?_
  rintro e w' ⟨rfl, rfl⟩
  go_wp2_with fail
  go_ret
  have s1 : (w.alloc (.map #[] 0)).heap.size = w.heap.size + 1 := by simp
  have s2 : ((w.alloc (.map #[] 0)).alloc (.cells (madeCells #[.int .i32 0] kk) 21)).heap.size = w.heap.size + 2 := by simp
  refine ⟨_, rfl, ⟨⟨w.heap.size, w.heap.size + 1, Nat.le_refl _, ?_, ?_, ?_⟩, ?_, ?_, ?_⟩, ?_⟩
  · go_simp
  · have hbb : Below (w.alloc (.map #[] 0)).heap.size (w.alloc (.map #[] 0)) (((w.alloc (.map #[] 0)).alloc (.cells (madeCells #[.int .i32 0] kk) 21)).alloc (.cells #[.map (some w.heap.size), .slice none 0 0, .int .i64 0, .slice (some ⟨w.heap.size + 1, 0, none⟩) kk kk] 73)) := bl_new (bl_new (Below.refl _ _) _) _
    exact (hbb.block w.heap.size (by simp)).trans (Go.Deep.blk_alloc_new w _)
  · go_simp
  · go_simp
  · go_simp
  · first | omega | (simp; omega)
  · exact bl_new (bl_new hb0 _) _
end Go.Proofs.Ybulkclns
