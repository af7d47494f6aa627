import Derived.Test.YbulkclmcLrn5
import Derived.Test.YbulkclmcAny
namespace Go.Proofs.Ybulkclmc
open Go.RowKit

/-- what the law is handed: the view, the stored nogoods, the explanations -/
structure LrnIn (p1 p2 p3 : Option Addr) (n1 n2 n3 : Nat) (va vt vp : Nat → Int) (vk : Nat → Bool) (L : Nat → Lhs) (has : Nat → Bool) (pr : Nat → Bool) (M : Nat → Lhs) (sz : Nat → Int) (w : World) : Prop where
  v : 0 < n1 → ∃ b o, p1 = some ⟨b, o, none⟩ ∧ ∀ i, i < n1 → w.cell? ⟨b, o + i * 4, none⟩ = some (.int .i64 (va i)) ∧ w.cell? ⟨b, o + i * 4 + 1, none⟩ = some (.int .i64 (vt i)) ∧ w.cell? ⟨b, o + i * 4 + 2, none⟩ = some (.int .i64 (vp i)) ∧ w.cell? ⟨b, o + i * 4 + 3, none⟩ = some (.bool (vk i))
  s : 0 < n2 → ∃ b o, p2 = some ⟨b, o, none⟩ ∧ ∀ i, i < n2 → w.cell? ⟨b, o + i * 2, none⟩ = some (L i).val ∧ w.cell? ⟨b, o + i * 2 + 1, none⟩ = some (.bool (has i))
  sl : ∀ i, i < n2 → In3 w (L i).p (L i).n (L i).f ∧ (L i).n ≤ 9223372036854775807
  x : 0 < n3 → ∃ b o, p3 = some ⟨b, o, none⟩ ∧ ∀ i, i < n3 → w.cell? ⟨b, o + i * 3, none⟩ = some (.bool (pr i)) ∧ w.cell? ⟨b, o + i * 3 + 1, none⟩ = some (M i).val ∧ w.cell? ⟨b, o + i * 3 + 2, none⟩ = some (.int .i64 (sz i))
  xl : ∀ i, i < n3 → In3 w (M i).p (M i).n (M i).f ∧ (M i).n ≤ 9223372036854775807

theorem LrnIn.later {p1 p2 p3 : Option Addr} {n1 n2 n3 : Nat} {va vt vp : Nat → Int} {vk : Nat → Bool} {L : Nat → Lhs} {has : Nat → Bool} {pr : Nat → Bool} {M : Nat → Lhs} {sz : Nat → Int} {w w' : World}
    (h : LrnIn p1 p2 p3 n1 n2 n3 va vt vp vk L has pr M sz w) (hb : Below w.heap.size w w') : LrnIn p1 p2 p3 n1 n2 n3 va vt vp vk L has pr M sz w' := by
  refine ⟨fun hn => ?_, fun hn => ?_, fun i hi => ⟨(h.sl i hi).1.later hb, (h.sl i hi).2⟩, fun hn => ?_, fun i hi => ⟨(h.xl i hi).1.later hb, (h.xl i hi).2⟩⟩
  · obtain ⟨b, o, e, hc⟩ := h.v hn
    exact ⟨b, o, e, fun i hi => by obtain ⟨c0, c1, c2, c3⟩ := hc i hi; exact ⟨cell_later hb c0, cell_later hb c1, cell_later hb c2, cell_later hb c3⟩⟩
  · obtain ⟨b, o, e, hc⟩ := h.s hn
    exact ⟨b, o, e, fun i hi => by obtain ⟨c0, c1⟩ := hc i hi; exact ⟨cell_later hb c0, cell_later hb c1⟩⟩
  · obtain ⟨b, o, e, hc⟩ := h.x hn
    exact ⟨b, o, e, fun i hi => by obtain ⟨c0, c1, c2⟩ := hc i hi; exact ⟨cell_later hb c0, cell_later hb c1, cell_later hb c2⟩⟩

theorem cells_made (w : World) (z : Array Value) (m t : Nat) : Cells (w.alloc (.cells (madeCells z m) t)) w.heap.size m (fun i => z[i % z.size]!) := by
  refine ⟨fun i hi => ?_, fun i hi => World.frozen?_alloc_at _ _ _ i rfl, by simp⟩
  rw [World.cell?_alloc_at _ _ _ i rfl]
  simp [madeCells, hi]

theorem cells_new (w : World) (c : Array Value) (t : Nat) : Cells (w.alloc (.cells c t)) w.heap.size c.size (fun i => c[i]!) := by
  refine ⟨fun i hi => ?_, fun i hi => World.frozen?_alloc_at _ _ _ i rfl, by simp⟩
  rw [World.cell?_alloc_at _ _ _ i rfl]
  simp [hi]

theorem Yba.info57' : (Yba.prog.info? 57).map (fun i => (i.zero, i.size, i.bytes)) = some (some (.agg #[.int .i64 0, .int .i64 0, .int .i64 0, .bool false]), 4, 32) := by kernel_rfl

theorem make34 (n : Nat) (hn : n ≤ 1024) (w : World) : (Instr.makeSlice 34 (.int .i64 n) (.int .i64 n)).run Yba.prog w = .ok (.slice (some ⟨w.heap.size, 0, none⟩) n n) (w.alloc (.cells (madeCells #[.int .i64 0, .int .i64 0, .int .i64 0, .bool false] (n * 4)) 57)) := by
  obtain ⟨i57, hi57, hz0, hz1, hz2⟩ := info_parts Yba.info57'
  have := run_make (P := Yba.prog) w 34 57 i57 _ Yba.underlying34 hi57 hz0 .i64 .i64 n n (by omega) (Int.le_refl _) (by rw [hz2]; omega) (by omega)
  rw [hz1] at this
  exact this

/-- the agent's own blocks -/
structure AgM (AG V FA EX n me : Nat) (g : Nat → Value) (w : World) : Prop where
  ag : Cells w AG 50 g
  g0 : g 0 = .int .i64 me
  g4 : g 4 = .slice (some ⟨FA, 0, none⟩) n n
  g10 : g 10 = .slice (some ⟨V, 0, none⟩) n n
  g14 : g 14 = .slice (some ⟨EX, 0, none⟩) n n

def agArr (me n V FA EX : Nat) : Array Value := #[.int .i64 me, .int .i64 n, .slice none 0 0, .slice none 0 0, .slice (some ⟨FA, 0, none⟩) n n, .slice none 0 0, .pointer none, .pointer none, .int .i64 0, .int .i64 0, .slice (some ⟨V, 0, none⟩) n n, .slice none 0 0, .slice none 0 0, .slice none 0 0, .slice (some ⟨EX, 0, none⟩) n n, .slice none 0 0, .int .i64 0, .slice none 0 0, .int .i64 0, .slice none 0 0, .slice none 0 0, .int .u64 0, .slice none 0 0, .slice none 0 0, .slice none 0 0, .int .i64 0, .slice none 0 0, .string { data := #[] }, .slice none 0 0, .slice none 0 0, .slice none 0 0, .slice none 0 0, .slice none 0 0, .slice none 0 0, .slice none 0 0, .slice none 0 0, .slice none 0 0, .slice none 0 0, .slice none 0 0, .slice none 0 0, .slice none 0 0, .slice none 0 0, .slice none 0 0, .slice none 0 0, .slice none 0 0, .slice none 0 0, .slice none 0 0, .slice none 0 0, .slice none 0 0, .bool false]

def R18 (H n me : Nat) : Nat → Value → World → Prop
  | 0, x, _ => x = .int .i64 me
  | 1, x, _ => x = .int .i64 n
  | 2, x, _ => x = .int .i64 n
  | 3, x, w => ∃ V, x = .slice (some ⟨V, 0, none⟩) n n ∧ Cells w V (n * 4) (vwOf (fun _ => 0) (fun _ => 0) (fun _ => 0) (fun _ => false)) ∧ H ≤ V
  | 4, x, _ => x = .int .i64 n
  | 5, x, w => ∃ FA, x = .slice (some ⟨FA, 0, none⟩) n n ∧ Cells w FA n (fun _ => .int .i32 0) ∧ H ≤ FA
  | 6, x, _ => x = .int .i64 n
  | 7, x, w => ∃ EX, x = .slice (some ⟨EX, 0, none⟩) n n ∧ Cells w EX n (exOf (fun _ => none)) ∧ H ≤ EX
  | 8, x, w => ∃ V FA EX, x = .agg (agArr me n V FA EX) ∧ (Cells w V (n * 4) (vwOf (fun _ => 0) (fun _ => 0) (fun _ => 0) (fun _ => false)) ∧ H ≤ V) ∧ (Cells w FA n (fun _ => .int .i32 0) ∧ H ≤ FA) ∧ Cells w EX n (exOf (fun _ => none)) ∧ H ≤ EX
  | 9, x, w => ∃ AG V FA EX, x = .pointer (some ⟨AG, 0, none⟩) ∧ Cells w AG 50 (fun i => (agArr me n V FA EX)[i]!) ∧ (Cells w V (n * 4) (vwOf (fun _ => 0) (fun _ => 0) (fun _ => 0) (fun _ => false)) ∧ H ≤ V ∧ V < AG) ∧ (Cells w FA n (fun _ => .int .i32 0) ∧ H ≤ FA ∧ FA < AG) ∧ Cells w EX n (exOf (fun _ => none)) ∧ H ≤ EX ∧ EX < AG
  | 10, x, w => ∃ AG V FA EX, x = .pointer (some ⟨AG, 0, none⟩) ∧ Cells w AG 50 (fun i => (agArr me n V FA EX)[i]!) ∧ (Cells w V (n * 4) (vwOf (fun _ => 0) (fun _ => 0) (fun _ => 0) (fun _ => false)) ∧ H ≤ V ∧ V < AG) ∧ (Cells w FA n (fun _ => .int .i32 0) ∧ H ≤ FA ∧ FA < AG) ∧ Cells w EX n (exOf (fun _ => none)) ∧ H ≤ EX ∧ EX < AG
  | _, _, _ => True

theorem R18_stable {H n me : Nat} : ∀ j x w w', R18 H n me j x w → Below w.heap.size w w' → R18 H n me j x w'
  | 0, _, _, _, h, _ => h
  | 1, _, _, _, h, _ => h
  | 2, _, _, _, h, _ => h
  | 3, _, _, _, h, hb => by obtain ⟨a, e, h1, h2⟩ := h; exact ⟨a, e, h1.later hb, h2⟩
  | 4, _, _, _, h, _ => h
  | 5, _, _, _, h, hb => by obtain ⟨a, e, h1, h2⟩ := h; exact ⟨a, e, h1.later hb, h2⟩
  | 6, _, _, _, h, _ => h
  | 7, _, _, _, h, hb => by obtain ⟨a, e, h1, h2⟩ := h; exact ⟨a, e, h1.later hb, h2⟩
  | 8, _, _, _, h, hb => by obtain ⟨a, b, c, e, ⟨h1, h2⟩, ⟨h3, h4⟩, h5, h6⟩ := h; exact ⟨a, b, c, e, ⟨h1.later hb, h2⟩, ⟨h3.later hb, h4⟩, h5.later hb, h6⟩
  | 9, _, _, _, h, hb => by obtain ⟨d, a, b, c, e, h0, ⟨h1, h2⟩, ⟨h3, h4⟩, h5, h6⟩ := h; exact ⟨d, a, b, c, e, h0.later hb, ⟨h1.later hb, h2⟩, ⟨h3.later hb, h4⟩, h5.later hb, h6⟩
  | 10, _, _, _, h, hb => by obtain ⟨d, a, b, c, e, h0, ⟨h1, h2⟩, ⟨h3, h4⟩, h5, h6⟩ := h; exact ⟨d, a, b, c, e, h0.later hb, ⟨h1.later hb, h2⟩, ⟨h3.later hb, h4⟩, h5.later hb, h6⟩
  | _ + 11, _, _, _, _, _ => trivial

def toF {α : Type} (z : α) (f : Nat → α) (k i : Nat) : α := if i < k then f i else z
theorem toF_step {α : Type} (z : α) (f : Nat → α) (k : Nat) : toF z f (k + 1) = upd (toF z f k) k (f k) := by
  funext i
  unfold toF upd
  by_cases e : i = k
  · subst e; simp
  · have e2 : (i < k + 1) ↔ (i < k) := by omega
    simp [e, e2]
theorem toF_zero {α : Type} (z : α) (f : Nat → α) : toF z f 0 = fun _ => z := by funext i; simp [toF]

theorem vw_all {w : World} {V n k : Nat} {va vt vp : Nat → Int} {vk : Nat → Bool} (h : Cells w V (n * 4) (vwOf va vt vp vk)) (hk : k < n) (x y z : Int) (u : Bool) :
    Cells ((((w.setCell ⟨V, k * 4, none⟩ (.int .i64 x)).setCell ⟨V, k * 4 + 1, none⟩ (.int .i64 y)).setCell ⟨V, k * 4 + 2, none⟩ (.int .i64 z)).setCell ⟨V, k * 4 + 3, none⟩ (.bool u)) V (n * 4) (vwOf (upd va k x) (upd vt k y) (upd vp k z) (upd vk k u)) := by
  refine ((((h.set (j := k * 4) (by omega) _).set (j := k * 4 + 1) (by omega) _).set (j := k * 4 + 2) (by omega) _).set (j := k * 4 + 3) (by omega) _).congr fun i hi => ?_
  by_cases e : i / 4 = k
  · have : i % 4 = 0 ∨ i % 4 = 1 ∨ i % 4 = 2 ∨ i % 4 = 3 := by omega
    rcases this with e4 | e4 | e4 | e4
    · obtain rfl : i = k * 4 := by omega
      simp [vwOf0, upd]
    · obtain rfl : i = k * 4 + 1 := by omega
      simp [vwOf1, upd]
    · obtain rfl : i = k * 4 + 2 := by omega
      simp [vwOf2, upd]
    · obtain rfl : i = k * 4 + 3 := by omega
      simp [vwOf3, upd]
  · have n0 : ¬ i = k * 4 := by omega
    have n1 : ¬ i = k * 4 + 1 := by omega
    have n2 : ¬ i = k * 4 + 2 := by omega
    have n3 : ¬ i = k * 4 + 3 := by omega
    simp [n0, n1, n2, n3, vwOf, upd, e]

theorem vw_all_step {w : World} {V n k : Nat} {va vt vp : Nat → Int} {vk : Nat → Bool} (h : Cells w V (n * 4) (vwOf (toF 0 va k) (toF 0 vt k) (toF 0 vp k) (toF false vk k))) (hk : k < n) :
    Cells ((((w.setCell ⟨V, k * 4, none⟩ (.int .i64 (va k))).setCell ⟨V, k * 4 + 1, none⟩ (.int .i64 (vt k))).setCell ⟨V, k * 4 + 2, none⟩ (.int .i64 (vp k))).setCell ⟨V, k * 4 + 3, none⟩ (.bool (vk k))) V (n * 4) (vwOf (toF 0 va (k + 1)) (toF 0 vt (k + 1)) (toF 0 vp (k + 1)) (toF false vk (k + 1))) := by
  rw [toF_step, toF_step, toF_step, toF_step]
  exact vw_all h hk _ _ _ _

theorem fa_step {w : World} {F n k : Nat} (h : Cells w F n (fun i => .int .i32 (toF 0 (fun _ => -1) k i))) (hk : k < n) : Cells (w.setCell ⟨F, k, none⟩ (.int .i32 (-1))) F n (fun i => .int .i32 (toF 0 (fun _ => -1) (k + 1) i)) := by
  refine (h.set hk _).congr fun i hi => ?_
  rw [toF_step]
  by_cases e : i = k
  · simp [e, upd]
  · simp [e, upd]

set_option maxRecDepth 100000 in
set_option maxHeartbeats 2000000 in
theorem lrn_long (id a0 v t : Int) (p1 p2 p3 : Option Addr) (n1 c1 n2 c2 n3 c3 : Nat) (w : World) (m1 : n1 ≤ 9223372036854775807) (m2 : n2 ≤ 9223372036854775807) (m3 : n3 ≤ 9223372036854775807) (h : n1 = 0 ∨ 1024 < n1 ∨ 1024 < n2 ∨ 1024 < n3) :
    Calls Yba.prog 3 #[.int .u8 id, .slice p1 n1 c1, .slice p2 n2 c2, .slice p3 n3 c3, .agg #[.int .i64 a0, .int .i64 v, .int .i64 t]] w fun e w' => e = .returned (.bool true) ∧ Below w.heap.size w w' := by
  go_enter Yba.func3, Yba.ntmps3
  by_cases h1 : n1 = 0
  · subst h1
    go_wp2
    go_ret
    exact ⟨rfl, (Below.refl _ _).alloc (Nat.le_refl _) _⟩
  · by_cases h2 : 1024 < n1
    · go_wp2
      go_ret
      exact ⟨rfl, (Below.refl _ _).alloc (Nat.le_refl _) _⟩
    · by_cases h3 : 1024 < n2
      · go_wp2
        go_ret
        exact ⟨rfl, (Below.refl _ _).alloc (Nat.le_refl _) _⟩
      · have h4 : 1024 < n3 := by omega
        go_wp2
        go_ret
        exact ⟨rfl, (Below.refl _ _).alloc (Nat.le_refl _) _⟩

end Go.Proofs.Ybulkclmc
