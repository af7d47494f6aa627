import Derived.Test.YbulkclmcMem
import Derived.Test.YbulkclmcShelf
namespace Go.Proofs.Ybulkclmc
open Go.RowKit

set_option maxRecDepth 100000 in
set_option maxHeartbeats 400000 in
theorem ins_nil (fv : Value) (w : World) : Calls Yba.prog 43 #[.slice none 0 0, .int .i64 0, .int .i64 0, fv] w fun e w' => e = .returned (.tuple #[]) ∧ w' = w := by
  go_enter Yba.func43, Yba.ntmps43
  go_wp2
  refine wp_loop_rounds 1 ?_
  rw [rounds_succ]
  go_wp2
  go_end0
  exact ⟨rfl, rfl⟩

set_option maxRecDepth 100000 in
set_option maxHeartbeats 400000 in
theorem pdq_nil (fv : Value) (l : Int) (w : World) : Calls Yba.prog 41 #[.slice none 0 0, .int .i64 0, .int .i64 0, .int .i64 l, fv] w fun e w' => e = .returned (.tuple #[]) ∧ w' = w := by
  go_enter Yba.func41, Yba.ntmps41
  go_wp2_with fail
  refine wp_loop_rounds 1 ?_
  rw [rounds_succ]
  go_wp2_with fail
  refine (ins_nil fv _).mono ?_
  rintro e w' ⟨rfl, hw⟩
  subst hw
  go_wp2_with fail
  exact bodyPost_ret (results_none rfl _ _ _) rfl ⟨rfl, rfl⟩

set_option maxRecDepth 100000 in
set_option maxHeartbeats 400000 in
theorem sort_nil (fv : Value) (w : World) : Calls Yba.prog 35 #[.slice none 0 0, fv] w fun e w' => e = .returned (.tuple #[]) ∧ w' = w := by
  go_enter Yba.func35, Yba.ntmps35
  go_wp2_with fail
  refine (Yba.bits_Len 0 _ (by decide) (by decide)).mono ?_
  rintro e w' ⟨rfl, hw⟩
  subst hw
  go_wp2_with fail
  refine (pdq_nil fv _ _).mono ?_
  rintro e w' ⟨rfl, hw⟩
  subst hw
  go_wp2_with fail
  go_end0
  exact ⟨rfl, rfl⟩

set_option maxRecDepth 100000 in
set_option maxHeartbeats 400000 in
theorem value_any (AG DB n c cur : Nat) (v : Int) (w : World) (h2 : w.cell? ⟨AG, 2, none⟩ = some (.slice (some ⟨DB, 0, none⟩) n c)) (h8 : w.cell? ⟨AG, 8, none⟩ = some (.int .i64 cur)) (hd : w.cell? ⟨DB, cur, none⟩ = some (.int .i64 v)) (hc : cur < n) :
    Calls Yba.prog 20 #[.pointer (some ⟨AG, 0, none⟩)] w fun e w' => e = .returned (.int .i64 v) ∧ ∃ q, w' = w.drewN q := by
  have hc' : (cur : Int) < (n : Int) := by omega
  go_enter Yba.func20, Yba.ntmps20
  go_wp2
  go_quiet (fail)
  go_wp2
  go_ret
  exact ⟨rfl, _, rfl⟩

/-- union where the one stored nogood is not there: nil. -/
def UnionNil (w : World) (e : Ending) (w' : World) : Prop := e = .returned (.slice none 0 0) ∧ Below w.heap.size w w'

set_option maxRecDepth 100000 in
set_option maxHeartbeats 400000 in
theorem union_nil (AG SB : Nat) (w : World) (h11 : w.cell? ⟨AG, 11, none⟩ = some (.slice (some ⟨SB, 0, none⟩) 1 1)) (s0 : w.cell? ⟨SB, 0, none⟩ = some (.slice none 0 0)) (s1 : w.cell? ⟨SB, 1, none⟩ = some (.bool false)) :
    Calls Yba.prog 21 #[.pointer (some ⟨AG, 0, none⟩)] w fun e w' => UnionNil w e w' := by
  have hA : AG < w.heap.size := World.block_lt_of_cell? _ _ h11
  have hS : SB < w.heap.size := World.block_lt_of_cell? _ _ s0
  have hS1 : SB < w.heap.size + 1 := by omega
  go_enter Yba.func21, Yba.ntmps21
  go_wp2_with fail
  refine wp_loop_rounds 2 ?_
  rw [rounds_succ]
  go_wp2_with fail
  rw [rounds_succ]
  go_wp2_with fail
  refine (sort_nil _ _).mono ?_
  rintro e w' ⟨rfl, hw⟩
  subst hw
  go_wp2
  go_ret
  exact ⟨rfl, ((Below.refl _ _).alloc (Nat.le_refl _) _).alloc (by simp) _⟩
end Go.Proofs.Ybulkclmc
