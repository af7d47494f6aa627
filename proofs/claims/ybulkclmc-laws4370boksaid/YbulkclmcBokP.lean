import Derived.Test.YbulkclmcWd
namespace Go.Proofs.Ybulkclmc
open Go.RowKit

/-- an assignment -/
structure As where
  k : Nat
  v : Int
  t : Int

def As.agg (x : As) : Value := .agg #[.int .i64 x.k, .int .i64 x.v, .int .i64 x.t]

def put {α : Type} (f : Nat → α) (k : Nat) (x : α) (j : Nat) : α := if j = k then x else f j
theorem put_same {α : Type} (f : Nat → α) (k : Nat) (x : α) : put f k x k = x := by simp [put]
theorem put_other {α : Type} (f : Nat → α) (k : Nat) (x : α) {j : Nat} (h : ¬ j = k) : put f k x j = f j := by simp [put, h]

/-- a row of assignments, three cells each -/
def asC (g : Nat → As) (i : Nat) : Value := .int .i64 (if i % 3 = 0 then ((g (i / 3)).k : Int) else if i % 3 = 1 then (g (i / 3)).v else (g (i / 3)).t)
theorem asC0 (g : Nat → As) (i : Nat) : asC g (i * 3) = .int .i64 (g i).k := by simp [asC, show i * 3 / 3 = i from by omega]
theorem asC1 (g : Nat → As) (i : Nat) : asC g (i * 3 + 1) = .int .i64 (g i).v := by simp [asC, show (i * 3 + 1) / 3 = i from by omega, show (i * 3 + 1) % 3 = 1 from by omega]
theorem asC2 (g : Nat → As) (i : Nat) : asC g (i * 3 + 2) = .int .i64 (g i).t := by simp [asC, show (i * 3 + 2) / 3 = i from by omega, show (i * 3 + 2) % 3 = 2 from by omega]

theorem as_put {w : World} {b n j : Nat} {g : Nat → As} (h : Cells w b (n * 3) (asC g)) (hj : j < n) (x : As) :
    Cells (((w.setCell ⟨b, j * 3, none⟩ (.int .i64 x.k)).setCell ⟨b, j * 3 + 1, none⟩ (.int .i64 x.v)).setCell ⟨b, j * 3 + 2, none⟩ (.int .i64 x.t)) b (n * 3) (asC (put g j x)) := by
  refine (((h.set (j := j * 3) (by omega) _).set (j := j * 3 + 1) (by omega) _).set (j := j * 3 + 2) (by omega) _).congr fun i hi => ?_
  by_cases e : i / 3 = j
  · have : i % 3 = 0 ∨ i % 3 = 1 ∨ i % 3 = 2 := by omega
    rcases this with e4 | e4 | e4
    · obtain rfl : i = j * 3 := by omega
      simp [asC0, put]
    · obtain rfl : i = j * 3 + 1 := by omega
      simp [asC1, put]
    · obtain rfl : i = j * 3 + 2 := by omega
      simp [asC2, put]
  · have n0 : ¬ i = j * 3 := by omega
    have n1 : ¬ i = j * 3 + 1 := by omega
    have n2 : ¬ i = j * 3 + 2 := by omega
    simp [n0, n1, n2, asC, put, e]

/-- the best so far of agent k, and one assignment more -/
def bst (k : Nat) (o : Option As) (x : As) : Option As :=
  if x.k = k then (match o with
    | none => some x
    | some y => if y.t < x.t then some x else some y) else o

def bestTo (k : Nat) (o : Option As) (f : Nat → As) : Nat → Option As
  | 0 => o
  | n + 1 => bst k (bestTo k o f n) (f n)

/-- over all stored nogoods that hold -/
def bestAll (k : Nat) (has : Nat → Bool) (ln : Nat → Nat) (f : Nat → Nat → As) : Nat → Option As
  | 0 => none
  | i + 1 => if has i then bestTo k (bestAll k has ln f i) (f i) (ln i) else bestAll k has ln f i

theorem bst_k {k : Nat} {o : Option As} {x y : As} (ho : ∀ z, o = some z → z.k = k) (h : bst k o x = some y) : y.k = k := by
  unfold bst at h
  by_cases e : x.k = k
  · rw [if_pos e] at h
    cases o with
    | none => simp at h; rw [← h]; exact e
    | some z =>
      simp only at h
      split at h
      · simp at h; rw [← h]; exact e
      · simp at h; rw [← h]; exact ho z rfl
  · rw [if_neg e] at h
    exact ho y h

theorem bestTo_k {k : Nat} {o : Option As} {f : Nat → As} (ho : ∀ z, o = some z → z.k = k) : ∀ n z, bestTo k o f n = some z → z.k = k
  | 0, z, h => ho z h
  | n + 1, _, h => bst_k (bestTo_k ho n) h

theorem bestAll_k {k : Nat} {has : Nat → Bool} {ln : Nat → Nat} {f : Nat → Nat → As} : ∀ n z, bestAll k has ln f n = some z → z.k = k
  | 0, _, h => by cases h
  | n + 1, z, h => by
    simp only [bestAll] at h
    split at h
    · exact bestTo_k (fun z h => bestAll_k n z h) _ z h
    · exact bestAll_k n z h

/-- a joined row: one assignment an agent, each the best of its agent -/
structure Joined (na : Nat) (g : Nat → As) (n : Nat) (O : Nat → Option As) : Prop where
  dis : ∀ i j, i < n → j < n → (g i).k = (g j).k → i = j
  lt : ∀ i, i < n → (g i).k < na
  none : ∀ k, k < na → O k = Option.none → ∀ i, i < n → ¬ (g i).k = k
  some : ∀ k y, k < na → O k = Option.some y → ∃ i, i < n ∧ g i = y ∧ y.k = k

theorem Joined.zero (na : Nat) (g : Nat → As) : Joined na g 0 (fun _ => Option.none) :=
  ⟨fun i _ h => absurd h (Nat.not_lt_zero i), fun i h => absurd h (Nat.not_lt_zero i), fun _ _ _ i h => absurd h (Nat.not_lt_zero i), fun _ _ _ h => by cases h⟩

theorem Joined.congr {na n : Nat} {g : Nat → As} {O O' : Nat → Option As} (h : Joined na g n O) (e : ∀ k, k < na → O k = O' k) : Joined na g n O' :=
  ⟨h.dis, h.lt, fun k hk ho => h.none k hk ((e k hk).trans ho), fun k y hk ho => h.some k y hk ((e k hk).trans ho)⟩

theorem Joined.append {na n : Nat} {g : Nat → As} {O : Nat → Option As} (h : Joined na g n O) (x : As) (hx : x.k < na) (hn : ∀ i, i < n → ¬ (g i).k = x.k) : Joined na (put g n x) (n + 1) (fun k => bst k (O k) x) := by
  have hO : O x.k = Option.none := by
    cases ho : O x.k with
    | none => rfl
    | some y =>
      obtain ⟨i, hi, e, ek⟩ := h.some x.k y hx ho
      exact absurd (by rw [e]; exact ek) (hn i hi)
  refine ⟨fun i j hi hj he => ?_, fun i hi => ?_, fun k hk ho i hi => ?_, fun k y hk ho => ?_⟩
  · by_cases e1 : i = n
    · by_cases e2 : j = n
      · omega
      · rw [e1, put_same, put_other g n x e2] at he
        exact absurd he.symm (hn j (by omega))
    · by_cases e2 : j = n
      · rw [e2, put_same, put_other g n x e1] at he
        exact absurd he (hn i (by omega))
      · rw [put_other g n x e1, put_other g n x e2] at he
        exact h.dis i j (by omega) (by omega) he
  · by_cases e1 : i = n
    · rw [e1, put_same]; exact hx
    · rw [put_other g n x e1]; exact h.lt i (by omega)
  · by_cases e : x.k = k
    · simp only [bst, e, if_true] at ho
      rw [← e, hO] at ho
      cases ho
    · simp only [bst, e, if_false] at ho
      by_cases e1 : i = n
      · rw [e1, put_same]; exact e
      · rw [put_other g n x e1]; exact h.none k hk ho i (by omega)
  · by_cases e : x.k = k
    · simp only [bst, e, if_true] at ho
      rw [← e, hO] at ho
      simp at ho
      exact ⟨n, by omega, by rw [put_same, ho], by rw [← ho, e]⟩
    · simp only [bst, e, if_false] at ho
      obtain ⟨i, hi, e1, e2⟩ := h.some k y hk ho
      exact ⟨i, by omega, by rw [put_other g n x (by omega)]; exact e1, e2⟩

theorem Joined.keep {na n : Nat} {g : Nat → As} {O : Nat → Option As} (h : Joined na g n O) (x : As) {i : Nat} (hi : i < n) (hk : (g i).k = x.k) (ht : ¬ (g i).t < x.t) : Joined na g n (fun k => bst k (O k) x) := by
  refine h.congr fun k hk' => ?_
  unfold bst
  by_cases e : x.k = k
  · rw [if_pos e]
    cases ho : O k with
    | none => exact absurd (by rw [hk]; exact e) (h.none k hk' ho i hi)
    | some y =>
      obtain ⟨j, hj, e1, e2⟩ := h.some k y hk' ho
      have : j = i := h.dis j i hj hi (by rw [e1, e2, hk, e])
      subst this
      rw [e1] at ht
      simp [ht]
  · rw [if_neg e]

theorem Joined.put {na n : Nat} {g : Nat → As} {O : Nat → Option As} (h : Joined na g n O) (x : As) {i : Nat} (hi : i < n) (hk : (g i).k = x.k) (ht : (g i).t < x.t) : Joined na (put g i x) n (fun k => bst k (O k) x) := by
  have hkk : ∀ j, ((Ybulkclmc.put g i x) j).k = (g j).k := fun j => by
    by_cases e : j = i
    · rw [e, put_same, hk]
    · rw [put_other g i x e]
  refine ⟨fun a b ha hb he => h.dis a b ha hb (by rw [hkk, hkk] at he; exact he), fun a ha => by rw [hkk]; exact h.lt a ha, fun k hk' ho a ha => ?_, fun k y hk' ho => ?_⟩
  · rw [hkk]
    by_cases e : x.k = k
    · simp only [bst, e, if_true] at ho
      cases hO : O k with
      | none => rw [hO] at ho; cases ho
      | some z => rw [hO] at ho; simp only at ho; split at ho <;> cases ho
    · simp only [bst, e, if_false] at ho
      exact h.none k hk' ho a ha
  · by_cases e : x.k = k
    · simp only [bst, e, if_true] at ho
      cases hO : O k with
      | none => exact absurd (by rw [hk]; exact e) (h.none k hk' hO i hi)
      | some z =>
        obtain ⟨j, hj, e1, e2⟩ := h.some k z hk' hO
        have : j = i := h.dis j i hj hi (by rw [e1, e2, hk, e])
        subst this
        rw [hO] at ho
        rw [e1] at ht
        simp [ht] at ho
        exact ⟨j, hj, by rw [put_same, ho], by rw [← ho, e]⟩
    · simp only [bst, e, if_false] at ho
      obtain ⟨j, hj, e1, e2⟩ := h.some k y hk' ho
      refine ⟨j, hj, ?_, e2⟩
      have : ¬ j = i := fun h => e (by rw [← hk, ← h, e1, e2])
      rw [put_other g i x this]
      exact e1

theorem pig : ∀ (na n : Nat) (f : Nat → Nat), (∀ i, i < n → f i < na) → (∀ i j, i < n → j < n → f i = f j → i = j) → n ≤ na
  | 0, n, f, h, _ => by
    cases n with
    | zero => exact Nat.le_refl _
    | succ n => exact absurd (h 0 (by omega)) (Nat.not_lt_zero _)
  | na + 1, n, f, h, hd => by
    by_cases hx : ∃ i, i < n ∧ f i = na
    · obtain ⟨i0, hi0, he⟩ := hx
      have := pig na (n - 1) (fun i => f (if i < i0 then i else i + 1)) (fun i hi => by
        have h1 : (if i < i0 then i else i + 1) < n := by split <;> omega
        have h2 := h _ h1
        have h3 : ¬ f (if i < i0 then i else i + 1) = na := fun e => by
          have := hd _ _ h1 hi0 (e.trans he.symm)
          split at this <;> omega
        omega) (fun i j hi hj e => by
        have h1 : (if i < i0 then i else i + 1) < n := by split <;> omega
        have h2 : (if j < i0 then j else j + 1) < n := by split <;> omega
        have := hd _ _ h1 h2 e
        split at this <;> split at this <;> omega)
      omega
    · have := pig na n f (fun i hi => by
        have h1 := h i hi
        have h2 : ¬ f i = na := fun e => hx ⟨i, hi, e⟩
        omega) hd
      omega

theorem Joined.le {na n : Nat} {g : Nat → As} {O : Nat → Option As} (h : Joined na g n O) : n ≤ na :=
  pig na n (fun i => (g i).k) h.lt (fun i j hi hj e => h.dis i j hi hj e)

/-- strictly sorted by rank -/
def SortedTo (rk : Nat → Nat) (g : Nat → As) (n : Nat) : Prop := ∀ i j, i < j → j < n → rk (g i).k < rk (g j).k

/-- two strictly sorted rows with the same elements are the same -/
theorem sorted_same {rk : Nat → Nat} : ∀ (n m : Nat) (g h : Nat → As), SortedTo rk g n → SortedTo rk h m → (∀ i, i < n → ∃ j, j < m ∧ h j = g i) → (∀ j, j < m → ∃ i, i < n ∧ g i = h j) → n = m ∧ ∀ i, i < n → g i = h i := by
  intro n m g h hg hh h1 h2
  have key : ∀ i, i < n → i < m ∧ g i = h i := by
    intro i
    induction i using Nat.strongRecOn with
    | _ i ih =>
      intro hi
      obtain ⟨j, hj, e⟩ := h1 i hi
      have hji : ¬ j < i := fun hlt => by
        have := (ih j hlt (by omega)).2
        have h3 := hg j i hlt hi
        rw [this, e] at h3
        omega
      have him : i < m := by omega
      by_cases e2 : j = i
      · subst e2; exact ⟨him, e.symm⟩
      · exfalso
        have h3 := hh i j (by omega) hj
        obtain ⟨p, hp, ep⟩ := h2 i him
        rw [← ep, e] at h3
        have : p < i := by
          by_cases hpi : p < i
          · exact hpi
          · by_cases hpe : p = i
            · subst hpe; omega
            · have := hg i p (by omega) hp; omega
        have h4 := (ih p this hp).2
        rw [ep] at h4
        have h5 := hh p i this him
        rw [h4] at h5
        omega
  have key2 : m ≤ n := by
    by_cases hm : m ≤ n
    · exact hm
    · exfalso
      obtain ⟨i, hi, e⟩ := h2 n (by omega)
      have := (key i hi).2
      rw [e] at this
      have h3 := hh i n hi (by omega)
      rw [this] at h3
      omega
  have key3 : n ≤ m := by
    cases n with
    | zero => omega
    | succ n => have := (key n (by omega)).1; omega
  exact ⟨by omega, fun i hi => (key i hi).2⟩

end Go.Proofs.Ybulkclmc
