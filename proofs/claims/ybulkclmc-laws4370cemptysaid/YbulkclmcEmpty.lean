import Derived.Test.YbulkclmcRows
import Derived.WalkKit
import Derived.WalkSpells
import Derived.WalkLawsBesides
import Derived.Deep.QuietTactic
import Derived.BigQuiet
import Derived.Deep.RegionWith
namespace Go.Proofs.Ybulkclmc
open Go.RowKit

set_option maxRecDepth 100000 in
set_option maxHeartbeats 400000 in
theorem passed_no (m n c : Int) (w : World) :
    Calls Yba.prog 27 #[.agg #[.int .i64 m, .int .i64 n], .agg #[.int .i64 0, .int .i64 0, .int .i64 0, .int .i64 c, .int .i64 0]] w fun e w' => e = .returned (.bool false) ∧ w' = (w.alloc (.cells #[.int .i64 m, .int .i64 n] 106)).alloc (.cells #[.int .i64 0, .int .i64 0, .int .i64 0, .int .i64 c, .int .i64 0] 95) := by
  by_cases h1 : 0 < m
  · have d1 : decide (m < 0) = false := by simp; omega
    by_cases h2 : 0 < n
    · have d2 : decide (n < 0) = false := by simp; omega
      go_enter Yba.func27, Yba.ntmps27
      go_wp2
      go_ret
      exact ⟨rfl, rfl⟩
    · go_enter Yba.func27, Yba.ntmps27
      go_wp2
      go_ret
      exact ⟨rfl, rfl⟩
  · by_cases h2 : 0 < n
    · have d2 : decide (n < 0) = false := by simp; omega
      go_enter Yba.func27, Yba.ntmps27
      go_wp2
      go_ret
      exact ⟨rfl, rfl⟩
    · go_enter Yba.func27, Yba.ntmps27
      go_wp2
      go_ret
      exact ⟨rfl, rfl⟩

set_option maxRecDepth 100000 in
set_option maxHeartbeats 400000 in
theorem mstats_any (cb tb : Nat) (w : World) (t0 : w.cell? ⟨tb, 0, none⟩ = some (.int .i64 0)) (t1 : w.cell? ⟨tb, 1, none⟩ = some (.int .i64 0)) (t2 : w.cell? ⟨tb, 2, none⟩ = some (.int .i64 0)) (t3 : w.cell? ⟨tb, 3, none⟩ = some (.slice none 0 0)) :
    Calls Yba.prog 30 #[.slice (some ⟨cb, 0, none⟩) 0 0, .slice (some ⟨tb, 0, none⟩) 1 1] w fun e w' => e = .returned (.agg #[.int .i64 0, .int .i64 0, .int .i64 0, .int .i64 0, .int .i64 0]) ∧ w' = ((w.alloc (.cells #[.int .i64 0, .int .i64 0, .int .i64 0, .int .i64 0, .int .i64 0] 95)).alloc (.cells #[.int .i64 0, .int .i64 0, .int .i64 0, .int .i64 0, .int .i64 0] 95)).alloc (.cells #[.int .i64 0, .int .i64 0, .int .i64 0, .slice none 0 0] 124) := by
  have hlt : tb < w.heap.size := World.block_lt_of_cell? _ _ t0
  have hlt1 : tb < w.heap.size + 1 := by omega
  have hlt2 : tb < w.heap.size + 2 := by omega
  go_enter Yba.func30, Yba.ntmps30
  go_wp2_with fail
  refine wp_loop_rounds 1 ?_
  rw [rounds_succ]
  go_wp2_with fail
  refine wp_loop_rounds 2 ?_
  rw [rounds_succ]
  go_wp2_with fail
  rw [rounds_succ]
  go_wp2_with fail
  exact bodyPost_ret (v := .agg #[.int .i64 0, .int .i64 0, .int .i64 0, .int .i64 0, .int .i64 0]) (by simp [results, Yba.results30, go_sem]) rfl ⟨rfl, rfl⟩

theorem mk37 (w : World) : (Instr.makeSlice 37 (.int .i64 0) (.int .i64 0)).run Yba.prog w = .ok (.slice (some ⟨w.heap.size, 0, none⟩) 0 0) (w.alloc (.cells #[] 3)) := by kernel_rfl

set_option maxRecDepth 100000 in
set_option maxHeartbeats 400000 in
theorem conclude_any (m n : Int) (ab : Nat) (w : World) :
    Calls Yba.prog 31 #[.agg #[.int .i64 0, .int .i64 0, .int .i64 0, .int .i64 1, .int .i64 0], .agg #[.int .i64 m, .int .i64 n], .pointer none, .slice (some ⟨ab, 0, none⟩) 0 0] w
      fun e w' => (∃ vb, e = .returned (.agg #[.string ⟨#[83, 65, 84, 73, 83, 70, 73, 65, 66, 76, 69]⟩, .slice (some ⟨vb, 0, none⟩) 0 0, .int .i64 0, .int .i64 0, .int .i64 0, .int .i64 1, .int .i64 0])) ∧ Below w.heap.size w w' := by
  have hmk := mk37
  go_enter Yba.func31, Yba.ntmps31
  go_wp2_with fail
  refine (passed_no m n 1 _).mono ?_
  rintro e w' ⟨rfl, rfl⟩
  go_wp2_with fail
  refine wp_loop_rounds 1 ?_
  rw [rounds_succ]
  go_wp2_with fail
  refine bodyPost_ret (v := .agg #[.string ⟨#[83, 65, 84, 73, 83, 70, 73, 65, 66, 76, 69]⟩, .slice (some ⟨w.heap.size + 1 + 1 + 1 + 1 + 1 + 1, 0, none⟩) 0 0, .int .i64 0, .int .i64 0, .int .i64 0, .int .i64 1, .int .i64 0]) (by simp [results, Yba.results31, go_sem]) rfl ⟨⟨_, rfl⟩, ?_⟩
  exact (((((((Below.refl _ _).alloc (Nat.le_refl _) _).alloc (by simp) _).alloc (by simp; omega) _).alloc (by simp; omega) _).alloc (by simp; omega) _).alloc (by simp; omega) _).alloc (by simp; omega) _

theorem mk118 (w : World) : (Instr.makeSlice 118 (.int .i64 0) (.int .i64 0)).run Yba.prog w = .ok (.slice (some ⟨w.heap.size, 0, none⟩) 0 0) (w.alloc (.cells #[] 91)) := by kernel_rfl
theorem mk120 (w : World) : (Instr.makeSlice 120 (.int .i64 0) (.int .i64 0)).run Yba.prog w = .ok (.slice (some ⟨w.heap.size, 0, none⟩) 0 0) (w.alloc (.cells #[] 129)) := by kernel_rfl
theorem mk132 (w : World) : (Instr.makeSlice 132 (.int .i64 0) (.int .i64 0)).run Yba.prog w = .ok (.slice (some ⟨w.heap.size, 0, none⟩) 0 0) (w.alloc (.cells #[] 136)) := by kernel_rfl
theorem mk133 (w : World) : (Instr.makeSlice 133 (.int .i64 0) (.int .i64 0)).run Yba.prog w = .ok (.slice (some ⟨w.heap.size, 0, none⟩) 0 0) (w.alloc (.cells #[] 2)) := by kernel_rfl

theorem len_any (b : Nat) (w : World) (h : w.cell? ⟨b, 0, none⟩ = some (.slice none 0 0)) : Calls Yba.prog 23 #[.pointer (some ⟨b, 0, none⟩)] w fun e w' => e = .returned (.int .i64 0) ∧ w' = w := by
  go_enter Yba.func23, Yba.ntmps23
  go_wp2
  go_ret
  exact ⟨rfl, rfl⟩

end Go.Proofs.Ybulkclmc
