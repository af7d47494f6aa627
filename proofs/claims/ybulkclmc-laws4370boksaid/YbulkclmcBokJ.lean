import Derived.Test.YbulkclmcBokS
import Derived.Deep.OwnRows
import Derived.Deep.AppendLies
namespace Go.Proofs.Ybulkclmc
open Go.RowKit

set_option maxRecDepth 100000 in
set_option maxHeartbeats 400000 in
theorem pdq_any (AG O P na BX R n cap : Nat) (rk : Nat → Nat) (g : Nat → As) (l : Int) (w : World) (hI : RkIn AG O P na rk w) (hb : w.cell? ⟨BX, 0, none⟩ = some (.pointer (some ⟨AG, 0, none⟩))) (hC : Cells w R (n * 3) (asC g)) (hn0 : 0 < n) (hn : n ≤ 6) (hna : na ≤ 6) (hD : LtD rk na g n)
    (e1 : ¬ AG = R) (e2 : ¬ O = R) (e3 : ¬ P = R) (e4 : ¬ BX = R) :
    Calls Yba.prog 41 #[.slice (some ⟨R, 0, none⟩) n cap, .int .i64 0, .int .i64 n, .int .i64 l, .func (.func 36) #[] #[.pointer (some ⟨BX, 0, none⟩)]] w fun e w' => e = .returned (.tuple #[]) ∧ ∃ g', InsOut rk R n g g' w w' := by
  have g1 : decide ((n : Int) ≤ 12) = true := by simp; omega
  have hw : IntKind.i64.wrap ((n : Int)) = (n : Int) := by simp [IntKind.wrap, IntKind.signed, IntKind.bits]; omega
  have HI : Hid (RkIn AG O P na rk w ∧ w.cell? ⟨BX, 0, none⟩ = some (.pointer (some ⟨AG, 0, none⟩)) ∧ Cells w R (n * 3) (asC g) ∧ LtD rk na g n) := ⟨hI, hb, hC, hD⟩
  clear hI hb hC hD
  go_enter Yba.func41, Yba.ntmps41
  go_wp2_with fail
  refine wp_loop_rounds 1 ?_
  rw [rounds_succ]
  go_wp2_with fail
  refine (ins_any AG O P na BX R n cap rk g w HI.out.1 HI.out.2.1 HI.out.2.2.1 hn0 hn hna HI.out.2.2.2 e1 e2 e3 e4).mono ?_
  rintro e w' ⟨rfl, g', hO⟩
  go_wp2_with fail
  exact bodyPost_ret (results_none rfl _ _ _) rfl ⟨rfl, g', hO⟩

set_option maxRecDepth 100000 in
set_option maxHeartbeats 400000 in
theorem sort_any (AG O P na BX R n cap : Nat) (rk : Nat → Nat) (g : Nat → As) (w : World) (hI : RkIn AG O P na rk w) (hb : w.cell? ⟨BX, 0, none⟩ = some (.pointer (some ⟨AG, 0, none⟩))) (hC : Cells w R (n * 3) (asC g)) (hn0 : 0 < n) (hn : n ≤ 6) (hna : na ≤ 6) (hD : LtD rk na g n)
    (e1 : ¬ AG = R) (e2 : ¬ O = R) (e3 : ¬ P = R) (e4 : ¬ BX = R) :
    Calls Yba.prog 35 #[.slice (some ⟨R, 0, none⟩) n cap, .func (.func 36) #[] #[.pointer (some ⟨BX, 0, none⟩)]] w fun e w' => e = .returned (.tuple #[]) ∧ ∃ g', InsOut rk R n g g' w w' := by
  have HI : Hid (RkIn AG O P na rk w ∧ w.cell? ⟨BX, 0, none⟩ = some (.pointer (some ⟨AG, 0, none⟩)) ∧ Cells w R (n * 3) (asC g) ∧ LtD rk na g n) := ⟨hI, hb, hC, hD⟩
  clear hI hb hC hD
  go_enter Yba.func35, Yba.ntmps35
  go_wp2_with fail
  refine (Yba.bits_Len (n : Int) _ (by omega) (by omega)).mono ?_
  rintro e w' ⟨rfl, hw⟩
  subst hw
  go_wp2_with fail
  refine (pdq_any AG O P na BX R n cap rk g _ w' HI.out.1 HI.out.2.1 HI.out.2.2.1 hn0 hn hna HI.out.2.2.2 e1 e2 e3 e4).mono ?_
  rintro e w' ⟨rfl, g', hO⟩
  go_wp2_with fail
  go_end0
  exact ⟨rfl, g', hO⟩
end Go.Proofs.Ybulkclmc
