import Derived.Test.YbulkclmcBokO
namespace Go.Proofs.Ybulkclmc
open Go.RowKit

def rkTo (n rot : Nat) (rev : Bool) : Nat → Nat → Nat
  | 0, _ => 0
  | k + 1, j => if j = ordAt n rot rev k then k else rkTo n rot rev k j

theorem posTo_rk (n rot : Nat) (rev : Bool) : ∀ k j, posTo n rot rev k j = .int .i32 (rkTo n rot rev k j)
  | 0, _ => rfl
  | k + 1, j => by
    simp only [posTo, rkTo]
    split
    · rfl
    · exact posTo_rk n rot rev k j

theorem ordAt_inj {n rot p q : Nat} {rev : Bool} (h1 : 1 ≤ n) (h6 : n ≤ 6) (hp : p < n) (hq : q < n) (h : ordAt n rot rev p = ordAt n rot rev q) : p = q := by
  have hn : n = 1 ∨ n = 2 ∨ n = 3 ∨ n = 4 ∨ n = 5 ∨ n = 6 := by omega
  unfold ordAt at h
  rcases hn with rfl | rfl | rfl | rfl | rfl | rfl <;> cases rev <;> simp at h <;> omega

theorem ordAt_sur {n rot k : Nat} {rev : Bool} (h1 : 1 ≤ n) (h6 : n ≤ 6) (hk : k < n) : ∃ p, p < n ∧ ordAt n rot rev p = k := by
  have hn : n = 1 ∨ n = 2 ∨ n = 3 ∨ n = 4 ∨ n = 5 ∨ n = 6 := by omega
  unfold ordAt
  refine ⟨((if rev then n - 1 - k else k) + n - rot % n) % n, Nat.mod_lt _ (by omega), ?_⟩
  rcases hn with rfl | rfl | rfl | rfl | rfl | rfl <;> cases rev <;> simp <;> omega

theorem rk_ord {n rot : Nat} {rev : Bool} (h1 : 1 ≤ n) (h6 : n ≤ 6) : ∀ k p, k ≤ n → p < k → rkTo n rot rev k (ordAt n rot rev p) = p
  | 0, p, _, hp => by omega
  | k + 1, p, hk, hp => by
    simp only [rkTo]
    by_cases e : p = k
    · rw [e]; simp
    · rw [if_neg (fun h => e (ordAt_inj h1 h6 (by omega) (by omega) h))]
      exact rk_ord h1 h6 k p (by omega) (by omega)

theorem ord_facts {n rot : Nat} {rev : Bool} (h1 : 1 ≤ n) (h6 : n ≤ 6) : (∀ p, p < n → ordAt n rot rev p < n ∧ rkTo n rot rev n (ordAt n rot rev p) = p) ∧ ∀ k, k < n → rkTo n rot rev n k < n ∧ ordAt n rot rev (rkTo n rot rev n k) = k := by
  refine ⟨fun p hp => ⟨ordAt_lt (by omega) rot rev p, rk_ord h1 h6 n p (Nat.le_refl _) hp⟩, fun k hk => ?_⟩
  obtain ⟨p, hp, e⟩ := ordAt_sur (rot := rot) (rev := rev) h1 h6 hk
  rw [← e, rk_ord h1 h6 n p (Nat.le_refl _) hp]
  exact ⟨hp, rfl⟩
end Go.Proofs.Ybulkclmc
