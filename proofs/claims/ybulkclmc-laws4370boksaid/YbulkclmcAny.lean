import Derived.Test.YbulkclmcRows
import Derived.WalkKit
import Derived.OrdersHeld
import Derived.Below
namespace Go.Proofs.Ybulkclmc
open Go.RowKit

section
variable {P : Program} {ops : Array Oper} {Q : Exit → Act → World → Prop}

/-- how many have not come up -/
def left : List Bool → Nat
  | [] => 0
  | b :: bs => (if b then 0 else 1) + left bs

theorem left_set : ∀ (l : List Bool) (i : Nat), l.getD i true = false → left (l.set i true) + 1 = left l
  | [], i, h => by simp [List.getD] at h
  | b :: bs, 0, h => by simp [List.getD] at h; subst h; simp [left]; omega
  | b :: bs, i + 1, h => by
    have := left_set bs i (by simpa [List.getD] using h)
    simp only [List.set_cons_succ, left]
    omega

theorem left_zero : ∀ (l : List Bool) (i : Nat), left l = 0 → l.getD i true = true
  | [], i, _ => by simp [List.getD]
  | b :: bs, 0, h => by cases b <;> simp [left] at h ⊢ <;> omega
  | b :: bs, i + 1, h => by
    have := left_zero bs i (by simp only [left] at h; omega)
    simpa [List.getD] using this

theorem getD_list (l : Array Bool) (i : Nat) (d : Bool) : l.getD i d = l.toList.getD i d := by
  simp [Array.getD, List.getD]
  split <;> simp [*]

/-- a drawn region by an invariant: behind every operation that may come up it holds anew -/
theorem wpAny_inv (Φ : Array Bool → Act → World → Prop)
    (step : ∀ l a w, Φ l a w → ∀ i ∈ Region.ready .any ops l, wpOp P ops Q i (Φ (l.setIfInBounds i true)) a w)
    (done : ∀ l a w, Φ l a w → Region.ready .any ops l = [] → Q .normal a w) :
    ∀ (fuel : Nat) (l : Array Bool) (a : Act) (w : World), left l.toList ≤ fuel → Φ l a w → wpAny P .any ops Q fuel l a w
  | 0, l, a, w, hf, h => by
    have hr : Region.ready .any ops l = [] := by
      cases hr : Region.ready .any ops l with
      | nil => rfl
      | cons x xs =>
        have hx : x ∈ Region.ready .any ops l := by rw [hr]; simp
        have h1 := (mem_ready.1 hx).1
        rw [getD_list, left_zero _ x (by omega)] at h1
        cases h1
    exact ⟨hr, done l a w h hr⟩
  | fuel + 1, l, a, w, hf, h => by
    refine ⟨fun hr => done l a w h hr, fun i hi => ?_⟩
    refine wpOp_mono (fun a' w' h' => wpAny_inv Φ step done fuel _ a' w' ?_ h') (step l a w h i hi)
    have h1 := (mem_ready.1 hi).1
    rw [getD_list] at h1
    have := left_set _ i h1
    rw [Array.toList_setIfInBounds]
    omega

/-- the frame behind the operations that have come up -/
def chainTo (ops : Array Oper) (l : Array Bool) (x : Nat → Value) (A0 : Act) : Nat → Act
  | 0 => A0
  | k + 1 => if l.getD k false then (chainTo ops l x A0 k).put ((ops[k]?).bind (·.dst)) (x k) else chainTo ops l x A0 k

def chainAll (ops : Array Oper) (x : Nat → Value) (A0 : Act) : Nat → Act
  | 0 => A0
  | k + 1 => (chainAll ops x A0 k).put ((ops[k]?).bind (·.dst)) (x k)

/-- all have a place of their own, none is guarded, each waits for earlier ones alone -/
structure Plain (ops : Array Oper) (n : Nat) (A0 : Act) : Prop where
  size : ops.size = n
  dst : ∀ i, i < n → ∃ d, (ops[i]?).bind (·.dst) = some d ∧ d < A0.tmps.size
  apart : ∀ i j d, i < n → j < n → i ≠ j → (ops[i]?).bind (·.dst) = some d → (ops[j]?).bind (·.dst) ≠ some d
  guard : ∀ (i : Nat) (o : Oper), ops[i]? = some o → o.guard = none
  back : ∀ (i : Nat) (o : Oper), ops[i]? = some o → ∀ e ∈ o.after, e.on < i

theorem setD (l : Array Bool) (i k : Nat) (hi : i < l.size) : (l.setIfInBounds i true).getD k false = if k = i then true else l.getD k false := by
  rw [getD_list, getD_list, Array.toList_setIfInBounds]
  have hi' : i < l.toList.length := by simpa using hi
  by_cases h : k = i
  · subst h
    rw [if_pos rfl]
    simp [List.getD, hi]
  · rw [if_neg h]
    simp [List.getD, List.getElem?_set_ne (Ne.symm h)]

theorem chain_set {l : Array Bool} {x : Nat → Value} {A0 : Act} {n i : Nat} {v : Value} (hp : Plain ops n A0) (hl : l.size = n) (hi : i < n) (hu : l.getD i false = false) :
    ∀ k, k ≤ n → chainTo ops (l.setIfInBounds i true) (fun j => if j = i then v else x j) A0 k = if i < k then (chainTo ops l x A0 k).put ((ops[i]?).bind (·.dst)) v else chainTo ops l x A0 k
  | 0, _ => by simp [chainTo]
  | k + 1, hk => by
    have ih := chain_set (v := v) (x := x) hp hl hi hu k (by omega)
    simp only [chainTo]
    rw [setD l i k (by omega), ih]
    by_cases e : k = i
    · subst e
      simp [hu]
    · simp only [e, if_false]
      by_cases hik : i < k
      · have hik1 : i < k + 1 := by omega
        simp only [hik, hik1, if_true]
        cases hlk : l.getD k false with
        | true =>
          simp only [if_true]
          obtain ⟨d, hd, _⟩ := hp.dst i hi
          have hne := hp.apart i k d hi (by omega) (Ne.symm e) hd
          rw [hd]
          refine Act.put_comm _ v (x k) (fun q hq => ?_)
          cases hq
          exact hne
        | false => simp
      · have hik1 : ¬ i < k + 1 := by omega
        simp only [hik, hik1, if_false]

theorem chain_size {l : Array Bool} {x : Nat → Value} {A0 : Act} : ∀ k, (chainTo ops l x A0 k).tmps.size = A0.tmps.size
  | 0 => rfl
  | k + 1 => by
    simp only [chainTo]
    split
    · unfold Act.put
      split <;> simp [chain_size k]
    · exact chain_size k

theorem chain_other {l : Array Bool} {x : Nat → Value} {A0 : Act} {t : Nat} : ∀ k, (∀ j, j < k → (ops[j]?).bind (·.dst) ≠ some t) → (chainTo ops l x A0 k).eval (.tmp t) = A0.eval (.tmp t)
  | 0, _ => rfl
  | k + 1, h => by
    simp only [chainTo]
    have ih := chain_other (l := l) (x := x) (A0 := A0) k (fun j hj => h j (by omega))
    split
    · rw [Act.eval_put (fun d hd e => h k (by omega) (by rw [hd]; cases e; rfl))]
      exact ih
    · exact ih

theorem eval_put_same {a : Act} {d : Nat} {v : Value} (h : d < a.tmps.size) : (a.put (some d) v).eval (.tmp d) = v := by
  simp [Act.put, Act.eval, h]

theorem chain_eval {l : Array Bool} {x : Nat → Value} {A0 : Act} {n i d : Nat} (hp : Plain ops n A0) (hi : i < n) (hd : (ops[i]?).bind (·.dst) = some d) (hl : l.getD i false = true) :
    ∀ k, i < k → k ≤ n → (chainTo ops l x A0 k).eval (.tmp d) = x i
  | 0, h, _ => by omega
  | k + 1, h, hk => by
    simp only [chainTo]
    by_cases e : k = i
    · subst e
      rw [hl, if_pos rfl, hd]
      obtain ⟨d', hd', hs⟩ := hp.dst k hi
      rw [hd] at hd'
      cases hd'
      exact eval_put_same (by rw [chain_size]; exact hs)
    · have ih := chain_eval (l := l) (x := x) hp hi hd hl k (by omega) (by omega)
      split
      · rw [Act.eval_put (fun q hq e' => by cases e'; exact hp.apart i k d hi (by omega) (Ne.symm e) hd hq)]
        exact ih
      · exact ih

theorem chain_all {l : Array Bool} {x : Nat → Value} {A0 : Act} : ∀ k, (∀ j, j < k → l.getD j false = true) → chainTo ops l x A0 k = chainAll ops x A0 k
  | 0, _ => rfl
  | k + 1, h => by
    simp only [chainTo, chainAll]
    rw [h k (by omega), if_pos rfl, chain_all k (fun j hj => h j (by omega))]

theorem ready_nil {n : Nat} {A0 : Act} (hp : Plain ops n A0) {l : Array Bool} (hl : l.size = n) (hr : Region.ready .any ops l = []) : ∀ k, k ≤ n → ∀ j, j < k → l.getD j false = true
  | 0, _, j, hj => by omega
  | k + 1, hk, j, hj => by
    have ih := ready_nil hp hl hr k (by omega)
    by_cases e : j = k
    · subst e
      cases hc : l.getD j false with
      | true => rfl
      | false =>
        exfalso
        have hj' : j < ops.size := by rw [hp.size]; omega
        have hm : j ∈ Region.ready .any ops l := by
          refine mem_ready.2 ⟨?_, ops[j], by simp [hj'], fun e he _ => ih _ (hp.back j ops[j] (by simp [hj']) e he)⟩
          have : j < l.size := by omega
          simp [Array.getD, this] at hc ⊢
          exact hc
        rw [hr] at hm
        cases hm
    · exact ih j (by omega)

/-- A DRAWN REGION WHOSE OPERATIONS MAKE MEMORY, BY ONE RELATION AN OPERATION: each, in whatever later world, with what it waits for standing in its relation, yields a value in its own relation. -/
theorem wp_region_rel {n : Nat} {A0 : Act} {w0 : World} {id : Nat} (hm : P.follows .mixedOrders = true) (hp : Plain ops n A0) (R : Nat → Value → World → Prop)
    (stable : ∀ j v w w', R j v w → Below w.heap.size w w' → R j v w')
    (step : ∀ (i : Nat) (o : Oper), ops[i]? = some o → ∀ (a : Act) (w : World), Below w0.heap.size w0 w → (∀ t, (∀ j, j < n → (ops[j]?).bind (·.dst) ≠ some t) → a.eval (.tmp t) = A0.eval (.tmp t)) →
      (∀ e ∈ o.after, Region.binds .any e = true → ∀ d, (ops[e.on]?).bind (·.dst) = some d → R e.on (a.eval (.tmp d)) w) →
      ∃ v w', (execOp a.eval o).run P w = .ok (.value v) w' ∧ Below w.heap.size w w' ∧ R i v w')
    (done : ∀ (x : Nat → Value) (w : World), Below w0.heap.size w0 w → (∀ j, j < n → R j (x j) w) → Q .normal (chainAll ops x A0 n) w) :
    (Code.region id ops true).wp P Q A0 w0 := by
  refine wp_region_any hm (wpAny_inv (fun l a w => l.size = n ∧ Below w0.heap.size w0 w ∧ ∃ x : Nat → Value, a = chainTo ops l x A0 n ∧ ∀ j, j < n → l.getD j false = true → R j (x j) w) ?_ ?_ _ _ _ _ ?_ ?_)
  · rintro l a w ⟨hl, hb, x, rfl, hR⟩ i hi
    obtain ⟨hu, o, ho, hall⟩ := mem_ready.1 hi
    have hin : i < n := by rw [← hp.size]; exact (Array.getElem?_eq_some_iff.1 ho).1
    have hu' : l.getD i false = false := by
      have : i < l.size := by omega
      simp [Array.getD, this] at hu ⊢
      exact hu
    obtain ⟨v, w', hrun, hb', hRi⟩ := step i o ho (chainTo ops l x A0 n) w hb (fun t ht => chain_other n ht) (fun e he hbd d hd => by
      have hlt : e.on < n := by have := hp.back i o ho e he; omega
      have hle := hall e he hbd
      rw [chain_eval hp hlt hd hle n hlt (Nat.le_refl _)]
      exact hR e.on hlt hle)
    have hw : Region.wanted o (yielded ops (chainTo ops l x A0 n).tmps) = true := by
      unfold Region.wanted
      rw [hp.guard i o ho]
    unfold wpOp
    simp only [ho, hw, if_true, Oper.wp, hrun, Oper.upon]
    refine .inl ⟨by simp [hl], hb.trans (hb'.mono hb.size), fun j => if j = i then v else x j, ?_, ?_⟩
    · rw [chain_set hp hl hin hu' n (Nat.le_refl _), if_pos hin, ho]
      rfl
    · intro j hj hlj
      by_cases e : j = i
      · subst e
        simpa using hRi
      · simp only [e, if_false]
        rw [setD l i j (by omega), if_neg e] at hlj
        exact stable j _ _ _ (hR j hj hlj) hb'
  · rintro l a w ⟨hl, hb, x, rfl, hR⟩ hr
    have hall := ready_nil hp hl hr n (Nat.le_refl _)
    rw [chain_all n hall]
    exact done x w hb (fun j hj => hR j hj (hall j hj))
  · rw [hp.size]
    suffices ∀ m, left (List.replicate m false) ≤ m by simpa using this n
    intro m
    induction m with
    | zero => simp [left]
    | succ m ih => simp [List.replicate_succ, left]; omega
  · refine ⟨by simp [hp.size], ⟨rfl, rfl, rfl, Nat.le_refl _, fun _ _ => rfl⟩, fun _ => default, ?_, fun j hj hf => ?_⟩
    · have : ∀ k, chainTo ops (Array.replicate ops.size false) (fun _ => default) A0 k = A0 := by
        intro k
        induction k with
        | zero => rfl
        | succ k ih =>
          simp only [chainTo]
          rw [ih]
          simp [Array.getD]
      exact (this n).symm
    · simp [Array.getD] at hf

def plainB (ops : Array Oper) (n sz : Nat) : Bool :=
  ops.size == n && (List.range n).all (fun i => match (ops[i]?).bind (·.dst) with
    | some d => decide (d < sz) && (List.range n).all (fun j => i == j || (ops[j]?).bind (·.dst) != some d)
    | none => false) && (List.range n).all (fun i => match ops[i]? with
    | some o => o.guard.isNone && o.after.toList.all (fun e => decide (e.on < i))
    | none => false)

theorem plain_of {n : Nat} {A0 : Act} (h : plainB ops n A0.tmps.size = true) : Plain ops n A0 := by
  simp only [plainB, Bool.and_eq_true, List.all_eq_true, List.mem_range, beq_iff_eq] at h
  obtain ⟨⟨h1, h2⟩, h3⟩ := h
  have h3' : ∀ (i : Nat) (o : Oper), ops[i]? = some o → o.guard = none ∧ ∀ e ∈ o.after, e.on < i := fun i o ho => by
    have := h3 i (by rw [← h1]; exact (Array.getElem?_eq_some_iff.1 ho).1)
    rw [ho] at this
    simp only [Bool.and_eq_true, Option.isNone_iff_eq_none, List.all_eq_true, decide_eq_true_eq] at this
    exact ⟨this.1, fun e he => this.2 e (Array.mem_toList_iff.2 he)⟩
  refine ⟨h1, fun i hi => ?_, fun i j d hi hj hne hd => ?_, fun i o ho => (h3' i o ho).1, fun i o ho => (h3' i o ho).2⟩
  · have := h2 i hi
    split at this
    · rename_i d hd
      simp only [Bool.and_eq_true, decide_eq_true_eq] at this
      exact ⟨d, hd, this.1⟩
    · cases this
  · have := h2 i hi
    rw [hd] at this
    simp only [Bool.and_eq_true, List.all_eq_true, List.mem_range, Bool.or_eq_true, beq_iff_eq, bne_iff_ne] at this
    rcases this.2 j hj with e | e
    · exact absurd e hne
    · exact e
end
end Go.Proofs.Ybulkclmc
