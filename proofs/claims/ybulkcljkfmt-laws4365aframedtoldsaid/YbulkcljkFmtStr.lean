import Derived.Test.YbulkcljkFmtDec
namespace Go.Proofs.YbulkcljkFmt
open Go.RowKit Go.Extern.Stop Go.Stop Go.Extern

set_option maxHeartbeats 400000 in
theorem str_err (D : Nat) (t : TypeId) (v : Value) (f : ByteArray) (w : World) (hf : f.size ≤ 4611686018427387904) (c1 : w.cell? ⟨D, 1, none⟩ = some (.iface t v)) :
    Calls Ybaf.prog 5 #[.pointer (some ⟨D, 0, none⟩), .string f] w fun e w' => e = .returned (.slice none 0 0) ∧ w' = w := by
  go_enter Ybaf.func5, Ybaf.ntmps5
  go_wp2_with fail
  refine (u32_err D t v _ _ ?_).mono ?_
  · exact c1
  rintro e w' ⟨rfl, rfl⟩
  go_wp2
  go_ret
  exact ⟨rfl, rfl⟩

set_option maxHeartbeats 400000 in
theorem str_short (F : Interp) (D : Nat) (p : Option Addr) (n c : Nat) (f : ByteArray) (w : World) (hf : f.size ≤ 4611686018427387904) (hF : F.answers w.tape) (hn : n < 4)
    (hd : Dec w D (.slice p n c) .nilIface) :
    Calls Ybaf.prog 5 #[.pointer (some ⟨D, 0, none⟩), .string f] w fun e w' => ErrPost D (.slice p n c) (.slice none 0 0) w e w' := by
  go_enter Ybaf.func5, Ybaf.ntmps5
  go_wp2_with fail
  refine (u32_short F D p n c _ _ ?_ hn ?_).mono ?_
  · exact hF
  · exact hd
  rintro e w' ⟨rfl, q, hb, hd'⟩
  have c1 := hd'.c1
  go_wp2
  go_ret
  exact ⟨rfl, q, hb, hd'⟩

def OverPost (D g o n c : Nat) (w : World) (e : Ending) (w' : World) : Prop := ∃ o', (c = 4 ∨ o' = o + 4) ∧ ErrPost D (.slice (some ⟨g, o', none⟩) (n - 4) (c - 4)) (.slice none 0 0) w e w'

set_option maxHeartbeats 400000 in
theorem str_over (F : Interp) (D g o n c : Nat) (b0 b1 b2 b3 : Int) (f : ByteArray) (w : World) (hf : f.size ≤ 4611686018427387904) (hF : F.answers w.tape) (hn : 4 ≤ n) (hnc : n ≤ c) (_hnb : n ≤ 1000000)
    (r0 : 0 ≤ b0 ∧ b0 ≤ 255) (r1 : 0 ≤ b1 ∧ b1 ≤ 255) (r2 : 0 ≤ b2 ∧ b2 ≤ 255) (r3 : 0 ≤ b3 ∧ b3 ≤ 255)
    (x0 : w.cell? ⟨g, o, none⟩ = some (.int .u8 b0)) (x1 : w.cell? ⟨g, o + 1, none⟩ = some (.int .u8 b1)) (x2 : w.cell? ⟨g, o + 2, none⟩ = some (.int .u8 b2)) (x3 : w.cell? ⟨g, o + 3, none⟩ = some (.int .u8 b3))
    (hd : Dec w D (.slice (some ⟨g, o, none⟩) n c) .nilIface) (hN : ((n - 4 : Nat) : Int) < be4 b0 b1 b2 b3) :
    Calls Ybaf.prog 5 #[.pointer (some ⟨D, 0, none⟩), .string f] w fun e w' => OverPost D g o n c w e w' := by
  have hr := be4_rng b0 b1 b2 b3 r0 r1 r2 r3
  go_enter Ybaf.func5, Ybaf.ntmps5
  go_wp2_with fail
  refine (u32_ok D g o n c b0 b1 b2 b3 _ _ hn hnc r0 r1 r2 r3 ?_ ?_ ?_ ?_ ?_).mono ?_
  · exact x0
  · exact x1
  · exact x2
  · exact x3
  · exact hd
  rintro e w' ⟨rfl, o', ho', hb, hd'⟩
  obtain ⟨c0, c1, c2, f0, f1⟩ := hd'
  clear hd x0 x1 x2 x3 r0 r1 r2 r3
  generalize be4 b0 b1 b2 b3 = N at *
  have hD : D < w'.heap.size := World.block_lt_of_cell? _ _ c0
  have hF2 : F.answers w'.tape := by rw [hb.tape]; exact hF
  have HO : Hid (c = 4 ∨ o' = o + 4) := ho'
  clear ho'
  go_wp2_with fail
  refine (errorf_any F f w'.heap.size _ ?_ ?_).mono ?_
  · exact hF2
  · go_simp
  rintro e w2 ⟨s, rfl, rfl⟩
  go_wp2
  go_ret
  refine ⟨o', HO.out, rfl, Value.pointer (some ⟨w'.heap.size + 1, 0, none⟩), hb.trans ?_, ⟨?_, ?_, ?_, ?_, ?_⟩⟩
  · exact ((((Below.refl D w').setCell (Nat.le_refl _) _).alloc (by simp [World.setCell]; omega) _).alloc (by simp [World.setCell]; omega) _).drew
  all_goals go_simp

def StrPost (D g o n N : Nat) (w : World) (e : Ending) (w' : World) : Prop :=
  ∃ o1 k1 o2 l k2, e = .returned (.slice (some ⟨g, o1, none⟩) N k1) ∧ (N = 0 ∨ o1 = o + 4) ∧ (l = 0 ∨ o2 = o + 4 + N) ∧ l + 4 + N = n ∧ Below D w w' ∧ Dec w' D (.slice (some ⟨g, o2, none⟩) l k2) .nilIface

set_option maxHeartbeats 400000 in
theorem str_ok (D g o n c N : Nat) (b0 b1 b2 b3 : Int) (f : ByteArray) (w : World) (hf : f.size ≤ 4611686018427387904) (hn : 4 ≤ n) (hnc : n ≤ c) (hnb : n ≤ 1000000)
    (r0 : 0 ≤ b0 ∧ b0 ≤ 255) (r1 : 0 ≤ b1 ∧ b1 ≤ 255) (r2 : 0 ≤ b2 ∧ b2 ≤ 255) (r3 : 0 ≤ b3 ∧ b3 ≤ 255)
    (x0 : w.cell? ⟨g, o, none⟩ = some (.int .u8 b0)) (x1 : w.cell? ⟨g, o + 1, none⟩ = some (.int .u8 b1)) (x2 : w.cell? ⟨g, o + 2, none⟩ = some (.int .u8 b2)) (x3 : w.cell? ⟨g, o + 3, none⟩ = some (.int .u8 b3))
    (hd : Dec w D (.slice (some ⟨g, o, none⟩) n c) .nilIface) (hN : be4 b0 b1 b2 b3 = (N : Int)) (hN' : N ≤ n - 4) :
    Calls Ybaf.prog 5 #[.pointer (some ⟨D, 0, none⟩), .string f] w fun e w' => StrPost D g o n N w e w' := by
  go_enter Ybaf.func5, Ybaf.ntmps5
  have HN : Hid (be4 b0 b1 b2 b3 = (N : Int)) := hN
  clear hN
  go_wp2_with fail
  refine (u32_ok D g o n c b0 b1 b2 b3 _ _ hn hnc r0 r1 r2 r3 ?_ ?_ ?_ ?_ ?_).mono ?_
  · exact x0
  · exact x1
  · exact x2
  · exact x3
  · exact hd
  rw [HN.out]
  rintro e w' ⟨rfl, o', ho', hb, hd'⟩
  obtain ⟨c0, c1, c2, f0, f1⟩ := hd'
  clear hd x0 x1 x2 x3 r0 r1 r2 r3 HN
  have hD : D < w'.heap.size := World.block_lt_of_cell? _ _ c0
  have HO : Hid (c = 4 ∨ o' = o + 4) := ho'
  clear ho'
  obtain ⟨m, hm⟩ : ∃ m, m = n - 4 := ⟨_, rfl⟩
  obtain ⟨k, hk⟩ : ∃ k, k = c - 4 := ⟨_, rfl⟩
  rw [← hm, ← hk] at c0
  have H1 : Hid (N = 0 ∨ o' = o + 4) := by
    rcases HO.out with h | h
    · exact Or.inl (by omega)
    · exact Or.inr h
  have H2 : Hid (k = N → m - N = 0) := fun h => by omega
  have H3 : Hid (m - N = 0 ∨ o' + N = o + 4 + N) := by
    rcases HO.out with h | h
    · exact Or.inl (by omega)
    · exact Or.inr (by omega)
  have H4 : Hid (m - N + 4 + N = n) := by unfold Hid; omega
  have g1 : m ≤ k := by omega
  have g2 : N ≤ m := by omega
  have g3 : m ≤ 1000000 := by omega
  clear hm hk hN' hn hnc hnb HO
  go_wp2
  · have h : k = N := by assumption
    go_ret
    refine ⟨o', N, o', m - N, 0, rfl, H1.out, Or.inl (H2.out h), H4.out, hb.trans ((Below.refl D w').setCell (Nat.le_refl _) _), ⟨?_, ?_, ?_, ?_, ?_⟩⟩
    all_goals go_simp
  · go_ret
    refine ⟨o', k, o' + N, m - N, k - N, rfl, H1.out, H3.out, H4.out, hb.trans ((Below.refl D w').setCell (Nat.le_refl _) _), ⟨?_, ?_, ?_, ?_, ?_⟩⟩
    all_goals go_simp
end Go.Proofs.YbulkcljkFmt
