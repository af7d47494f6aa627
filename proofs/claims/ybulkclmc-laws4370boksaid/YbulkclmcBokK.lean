import Derived.Test.YbulkclmcBokJ
namespace Go.Proofs.Ybulkclmc
open Go.RowKit

/-- what an append hands over -/
theorem Cells.owned2 {w1 : World} {B e size g n cap : Nat} {xs : List Value} (h : w1.ownsRow B e size (.slice (some ⟨g, 0, none⟩) n cap) n xs) (hg : g < w1.heap.size) : Cells w1 g (n * size) (fun i => xs.getD i default) := by
  obtain ⟨hl, h | ⟨g', cap', cur, hv, _, hh, hnc, _, hs, ht⟩⟩ := h
  · simp at h
  · simp at hv
    obtain ⟨rfl, rfl⟩ := hv
    have hle : n * size ≤ cap * size := Nat.mul_le_mul_right _ hnc
    refine ⟨fun i hi => ?_, fun i hi => ?_, hg⟩
    · have e : (cur.toList.take (n * size))[i]? = xs[i]? := by rw [ht]
      rw [List.getElem?_take_of_lt hi] at e
      have hx : i < xs.length := by omega
      have hc : i < cur.size := by omega
      simp only [World.cell?, hh]
      simp [List.getD, hx] at e ⊢
      simpa [hc] using e
    · simp [World.frozen?, hh]

/-- a row of assignments that the call has built -/
def RowA (w : World) (B : Nat) (sv : Value) (g : Nat → As) (n : Nat) : Prop := ∃ xs, w.ownsRow B 67 3 sv n xs ∧ (∀ i, i < n * 3 → xs[i]? = some (asC g i)) ∧ (n = 0 → sv = .slice none 0 0)

theorem RowA.nil (w : World) (B : Nat) (g : Nat → As) : RowA w B (.slice none 0 0) g 0 := ⟨[], World.ownsRow_nil w B 67 3, fun i hi => by omega, fun _ => rfl⟩

theorem RowA.val {w : World} {B n : Nat} {sv : Value} {g : Nat → As} (h : RowA w B sv g n) : ∃ sp sc, sv = .slice sp n sc := by
  obtain ⟨xs, h, _, _⟩ := h
  rcases h.2 with ⟨h1, h2⟩ | ⟨r, cap, cur, hv, _⟩
  · exact ⟨none, 0, by rw [h1, h2]⟩
  · exact ⟨_, _, hv⟩

theorem RowA.form {w : World} {B n : Nat} {sv : Value} {g : Nat → As} (h : RowA w B sv g n) (hn : 0 < n) : ∃ R cap, sv = .slice (some ⟨R, 0, none⟩) n cap ∧ B ≤ R ∧ Cells w R (n * 3) (asC g) := by
  obtain ⟨xs, h, hx, hq⟩ := h
  obtain ⟨R, cap, hv, hb, hl⟩ := h.form hn
  subst hv
  refine ⟨R, cap, rfl, hb, (Cells.owned2 h hl).congr fun i hi => ?_⟩
  rw [List.getD, hx i hi]; rfl

theorem RowA.block {w w' : World} {B n : Nat} {sv : Value} {g : Nat → As} (h : RowA w B sv g n) (hk : ∀ k, B ≤ k → k < w.heap.size → sv.ownBlock = some k → w'.heap[k]? = w.heap[k]?) : RowA w' B sv g n := by
  obtain ⟨xs, h, hx, hq⟩ := h
  refine ⟨xs, ⟨h.1, ?_⟩, hx, hq⟩
  rcases h.2 with h1 | ⟨r, cap, cur, hv, hb, hh, h3⟩
  · exact Or.inl h1
  · refine Or.inr ⟨r, cap, cur, hv, hb, ?_, h3⟩
    rw [hk r hb (by
      rcases Nat.lt_or_ge r w.heap.size with hlt | hge
      · exact hlt
      · rw [Array.getElem?_eq_none hge] at hh; cases hh) (by rw [hv]; rfl)]
    exact hh

theorem RowA.later {w w' : World} {B n : Nat} {sv : Value} {g : Nat → As} (h : RowA w B sv g n) (hb : Below w.heap.size w w') : RowA w' B sv g n := h.block fun k _ hk _ => hb.block k hk
theorem RowA.keeps {S : Nat → Prop} {w w' : World} {B n : Nat} {sv : Value} {g : Nat → As} (h : RowA w B sv g n) (k : Keeps S w w') (hS : ∀ b, B ≤ b → ¬ S b) : RowA w' B sv g n := h.block fun j hB hj _ => k.block j hj (hS j hB)

theorem RowA.congr {w : World} {B n : Nat} {sv : Value} {g g' : Nat → As} (h : RowA w B sv g n) (e : ∀ i, i < n → g i = g' i) : RowA w B sv g' n := by
  obtain ⟨xs, h, hx, hq⟩ := h
  refine ⟨xs, h, fun i hi => ?_, hq⟩
  rw [hx i hi]
  simp only [asC, e (i / 3) (by omega)]

theorem RowA.put {w : World} {B R n cap j : Nat} {g : Nat → As} (h : RowA w B (.slice (some ⟨R, 0, none⟩) n cap) g n) (hj : j < n) (x : As) :
    RowA (((w.setCell ⟨R, j * 3, none⟩ (.int .i64 x.k)).setCell ⟨R, j * 3 + 1, none⟩ (.int .i64 x.v)).setCell ⟨R, j * 3 + 2, none⟩ (.int .i64 x.t)) B (.slice (some ⟨R, 0, none⟩) n cap) (Ybulkclmc.put g j x) n := by
  obtain ⟨xs, h, hx, hq⟩ := h
  refine ⟨_, (((h.stored (j * 3) (.int .i64 x.k)).1.stored (j * 3 + 1) (.int .i64 x.v)).1.stored (j * 3 + 2) (.int .i64 x.t)).1, fun i hi => ?_, fun h0 => by omega⟩
  have hl := h.1
  simp only [List.getElem?_set, List.length_set]
  by_cases e : i / 3 = j
  · have : i % 3 = 0 ∨ i % 3 = 1 ∨ i % 3 = 2 := by omega
    rcases this with e4 | e4 | e4
    · obtain rfl : i = j * 3 := by omega
      simp [asC0, Ybulkclmc.put, show j * 3 < xs.length by omega]
    · obtain rfl : i = j * 3 + 1 := by omega
      simp [asC1, Ybulkclmc.put, show j * 3 + 1 < xs.length by omega]
    · obtain rfl : i = j * 3 + 2 := by omega
      simp [asC2, Ybulkclmc.put, show j * 3 + 2 < xs.length by omega]
  · have n0 : ¬ j * 3 = i := by omega
    have n1 : ¬ j * 3 + 1 = i := by omega
    have n2 : ¬ j * 3 + 2 = i := by omega
    simp [n0, n1, n2, hx i hi, asC, Ybulkclmc.put, e]

/-- where each agent's assignment stands, plus one; 0 if nowhere -/
def AtOk (na : Nat) (g : Nat → As) (n : Nat) (a : Nat → Nat) : Prop := ∀ k, k < na → (a k = 0 ∧ ∀ i, i < n → ¬ (g i).k = k) ∨ ∃ i, i < n ∧ a k = i + 1 ∧ (g i).k = k

theorem AtOk.step {na j : Nat} {g : Nat → As} {a : Nat → Nat} (h : AtOk na g j a) : AtOk na g (j + 1) (put a (g j).k (j + 1)) := by
  intro k hk
  by_cases e : k = (g j).k
  · exact Or.inr ⟨j, by omega, by rw [e, put_same], e.symm⟩
  · rw [put_other _ _ _ e]
    rcases h k hk with ⟨h1, h2⟩ | ⟨i, hi, h1, h2⟩
    · refine Or.inl ⟨h1, fun i hi => ?_⟩
      by_cases e2 : i = j
      · rw [e2]; exact fun h => e h.symm
      · exact h2 i (by omega)
    · exact Or.inr ⟨i, by omega, h1, h2⟩

theorem AtOk.append {na n : Nat} {g : Nat → As} {a : Nat → Nat} (h : AtOk na g n a) (x : As) : AtOk na (Ybulkclmc.put g n x) (n + 1) (Ybulkclmc.put a x.k (n + 1)) := by
  intro k hk
  by_cases e : k = x.k
  · exact Or.inr ⟨n, by omega, by rw [e, put_same], by rw [put_same, e]⟩
  · rw [put_other _ _ _ e]
    rcases h k hk with ⟨h1, h2⟩ | ⟨i, hi, h1, h2⟩
    · refine Or.inl ⟨h1, fun i hi => ?_⟩
      by_cases e2 : i = n
      · rw [e2, put_same]; exact fun h => e h.symm
      · rw [put_other _ _ _ e2]; exact h2 i (by omega)
    · exact Or.inr ⟨i, by omega, h1, by rw [put_other _ _ _ (by omega)]; exact h2⟩

theorem AtOk.put {na n i : Nat} {g : Nat → As} {a : Nat → Nat} (h : AtOk na g n a) (x : As) (hk : (g i).k = x.k) : AtOk na (Ybulkclmc.put g i x) n a := by
  have hkk : ∀ j, ((Ybulkclmc.put g i x) j).k = (g j).k := fun j => by
    by_cases e : j = i
    · rw [e, put_same, hk]
    · rw [put_other g i x e]
  intro k hk'
  rcases h k hk' with ⟨h1, h2⟩ | ⟨j, hj, h1, h2⟩
  · exact Or.inl ⟨h1, fun j hj => by rw [hkk]; exact h2 j hj⟩
  · exact Or.inr ⟨j, hj, h1, by rw [hkk]; exact h2⟩

/-- the first j assignments' places are cleared -/
def AtClr (na : Nat) (g : Nat → As) (n j : Nat) (a : Nat → Nat) : Prop := ∀ k, k < na → a k = 0 ∨ ∃ i, j ≤ i ∧ i < n ∧ a k = i + 1 ∧ (g i).k = k
theorem AtOk.clr {na n : Nat} {g : Nat → As} {a : Nat → Nat} (h : AtOk na g n a) : AtClr na g n 0 a := fun k hk => by
  rcases h k hk with ⟨h1, _⟩ | ⟨i, hi, h1, h2⟩
  · exact Or.inl h1
  · exact Or.inr ⟨i, Nat.zero_le _, hi, h1, h2⟩
theorem AtClr.step {na n j : Nat} {g : Nat → As} {a : Nat → Nat} (h : AtClr na g n j a) : AtClr na g n (j + 1) (put a (g j).k 0) := fun k hk => by
  by_cases e : k = (g j).k
  · exact Or.inl (by rw [e, put_same])
  · rw [put_other _ _ _ e]
    rcases h k hk with h1 | ⟨i, h0, hi, h1, h2⟩
    · exact Or.inl h1
    · refine Or.inr ⟨i, ?_, hi, h1, h2⟩
      by_cases e2 : i = j
      · exact absurd (by rw [← e2, h2]) e
      · omega
theorem AtClr.done {na n : Nat} {g : Nat → As} {a : Nat → Nat} (h : AtClr na g n n a) : ∀ k, k < na → a k = 0 := fun k hk => by
  rcases h k hk with h1 | ⟨i, h0, hi, _⟩
  · exact h1
  · omega

def atC (a : Nat → Nat) (k : Nat) : Value := .int .i64 (a k)
theorem at_put {w : World} {J na k : Nat} {a : Nat → Nat} (h : Cells w J na (atC a)) (hk : k < na) (x : Nat) : Cells (w.setCell ⟨J, k, none⟩ (.int .i64 x)) J na (atC (put a k x)) := by
  refine (h.set hk _).congr fun i hi => ?_
  by_cases e : i = k
  · simp [e, atC, put]
  · simp [e, atC, put]
end Go.Proofs.Ybulkclmc
