import Derived.Test.YbulkclmcLrn4
namespace Go.Proofs.Ybulkclmc
open Go.RowKit

def chB (sk kn : Bool) (a v : Int) : Bool := !sk && (!kn || decide (¬ a = v))

theorem learn_any (AG V FA ST EX n ns me ag lo : Nat) (va vt vp : Nat → Int) (vk : Nat → Bool) (S : Nat → Lhs) (has : Nat → Bool) (X : Nat → Option Nat) (E : Nat → Lhs) (v t : Int) (w : World) (hag : ag < n) (hn : n ≤ 1024) (hns : ns ≤ 1024)
    (hA : LrnA AG V FA ST EX n ns me w) (hV : Cells w V (n * 4) (vwOf va vt vp vk)) (hST : Cells w ST (ns * 2) (stOf S has)) (hEX : Cells w EX n (exOf X)) (hVS : ¬ V = ST) (hVE : ¬ V = EX) (hSE : ¬ ST = EX)
    (hVA : ¬ V = AG) (hVF : ¬ V = FA) (hSA : ¬ ST = AG) (hEA : ¬ EX = AG) (hlV : V < lo) (hlS : ST < lo) (hlE : EX < lo) (hlw : lo ≤ w.heap.size) (hS : ∀ i, i < ns → LhsOk lo w (S i)) (hE : ∀ j, j < n → ExOk lo w (X j) (E j)) :
    Calls Yba.prog 11 #[.pointer (some ⟨AG, 0, none⟩), .agg #[.int .i64 ag, .int .i64 v, .int .i64 t]] w fun e w' => LrnPost V ST EX n ns ag v t va vt vp vk S has X E (skipB ag me t (vt ag) (vk ag)) (chB (skipB ag me t (vt ag) (vk ag)) (vk ag) (va ag) v) w e w' := by
  cases hs : skipB ag me t (vt ag) (vk ag) with
  | true =>
    refine (learn_skip AG V FA ST EX n ns me ag va vt vp vk v t w hag hA hV hs).mono ?_
    rintro e w' ⟨he, hb⟩
    refine ⟨he, ⟨?_, ?_, ?_, Keeps.of_below hb⟩⟩
    · simpa [chB] using hV.later hb
    · simpa [chB] using hST.later hb
    · simpa [chB] using hEX.later hb
  | false =>
    by_cases hc : vk ag = false ∨ ¬ va ag = v
    · have e : chB false (vk ag) (va ag) v = true := by
        rcases hc with h | h <;> simp [chB, h]
      rw [e]
      exact learn_new AG V FA ST EX n ns me ag lo va vt vp vk S has X E v t w hag hn hns hA hV hST hEX hs hc hVS hVE hSE hVA hVF hSA hEA hlV hlS hlE hlw hS hE
    · have h1 : vk ag = true := by
        cases h : vk ag with
        | true => rfl
        | false => exact absurd (Or.inl h) hc
      have h2 : va ag = v := Decidable.byContradiction fun h => hc (Or.inr h)
      have e : chB false (vk ag) (va ag) v = false := by simp [chB, h1, h2]
      rw [e]
      exact learn_same AG V FA ST EX n ns me ag va vt vp vk S has X E v t w hag hA hV hST hEX hs h1 h2 hVS hVE
end Go.Proofs.Ybulkclmc
