import Derived.Test.YbulkcljkFmtBase
namespace Go.Proofs.YbulkcljkFmt
open Go.RowKit Go.Extern.Stop Go.Stop Go.Extern

structure Dec (w : World) (D : Nat) (r e : Value) : Prop where
  c0 : w.cell? ⟨D, 0, none⟩ = some r
  c1 : w.cell? ⟨D, 1, none⟩ = some e
  c2 : w.cell? ⟨D, 2, none⟩ = some (.slice none 0 0)
  f0 : w.frozen? ⟨D, 0, none⟩ = false
  f1 : w.frozen? ⟨D, 1, none⟩ = false

theorem below_drewN {B : Nat} {a w : World} (h : Below B a w) (q : Nat) : Below B a (w.drewN q) := ⟨h.os, h.tape, h.output, h.size, h.block⟩

set_option maxHeartbeats 400000 in
theorem u32_err (D : Nat) (t : TypeId) (v : Value) (f : ByteArray) (w : World) (c1 : w.cell? ⟨D, 1, none⟩ = some (.iface t v)) :
    Calls Ybaf.prog 8 #[.pointer (some ⟨D, 0, none⟩), .string f] w fun e w' => e = .returned (.int .u32 0) ∧ w' = w := by
  go_enter Ybaf.func8, Ybaf.ntmps8
  go_wp2
  go_ret
  exact ⟨rfl, rfl⟩

def ErrPost (D : Nat) (r : Value) (v : Value) (w : World) (e : Ending) (w' : World) : Prop := e = .returned v ∧ ∃ q, Below D w w' ∧ Dec w' D r (.iface 39 q)

set_option maxHeartbeats 400000 in
theorem u32_short (F : Interp) (D : Nat) (p : Option Addr) (n c : Nat) (f : ByteArray) (w : World) (hF : F.answers w.tape) (hn : n < 4)
    (hd : Dec w D (.slice p n c) .nilIface) :
    Calls Ybaf.prog 8 #[.pointer (some ⟨D, 0, none⟩), .string f] w fun e w' => ErrPost D (.slice p n c) (.int .u32 0) w e w' := by
  obtain ⟨c0, c1, c2, f0, f1⟩ := hd
  have hD : D < w.heap.size := World.block_lt_of_cell? _ _ c0
  go_enter Ybaf.func8, Ybaf.ntmps8
  go_wp2_with fail
  refine (errorf_any F f w.heap.size _ ?_ ?_).mono ?_
  · exact hF
  · go_simp
  rintro e w' ⟨s, rfl, rfl⟩
  go_wp2
  go_ret
  refine ⟨rfl, Value.pointer (some ⟨w.heap.size + 1, 0, none⟩), ?_, ⟨?_, ?_, ?_, ?_, ?_⟩⟩
  · exact ((((Below.refl D w).setCell (Nat.le_refl _) _).alloc (by simp [World.setCell]; omega) _).alloc (by simp [World.setCell]; omega) _).drew
  all_goals go_simp

def U32Post (D g o n c : Nat) (N : Int) (w : World) (e : Ending) (w' : World) : Prop :=
  e = .returned (.int .u32 N) ∧ ∃ o', (c = 4 ∨ o' = o + 4) ∧ Below D w w' ∧ Dec w' D (.slice (some ⟨g, o', none⟩) (n - 4) (c - 4)) .nilIface

set_option maxHeartbeats 400000 in
theorem u32_ok (D g o n c : Nat) (b0 b1 b2 b3 : Int) (f : ByteArray) (w : World) (hn : 4 ≤ n) (_hnc : n ≤ c)
    (r0 : 0 ≤ b0 ∧ b0 ≤ 255) (r1 : 0 ≤ b1 ∧ b1 ≤ 255) (r2 : 0 ≤ b2 ∧ b2 ≤ 255) (r3 : 0 ≤ b3 ∧ b3 ≤ 255)
    (x0 : w.cell? ⟨g, o, none⟩ = some (.int .u8 b0)) (x1 : w.cell? ⟨g, o + 1, none⟩ = some (.int .u8 b1)) (x2 : w.cell? ⟨g, o + 2, none⟩ = some (.int .u8 b2)) (x3 : w.cell? ⟨g, o + 3, none⟩ = some (.int .u8 b3))
    (hd : Dec w D (.slice (some ⟨g, o, none⟩) n c) .nilIface) :
    Calls Ybaf.prog 8 #[.pointer (some ⟨D, 0, none⟩), .string f] w fun e w' => U32Post D g o n c (be4 b0 b1 b2 b3) w e w' := by
  obtain ⟨c0, c1, c2, f0, f1⟩ := hd
  have hD : D < w.heap.size := World.block_lt_of_cell? _ _ c0
  go_enter Ybaf.func8, Ybaf.ntmps8
  go_wp2_with fail
  go_region_with (go_at_call 10; refine (be_any g o n c b0 b1 b2 b3 _ hn r0 r1 r2 r3 ?_ ?_ ?_ ?_).mono ?_; exact x0; exact x1; exact x2; exact x3; rintro e w' ⟨rfl, q, rfl⟩)
  all_goals go_wp2
  all_goals
    go_ret
    first
    | (have h4 : ¬ c = 4 := by assumption
       refine ⟨rfl, o + 4, Or.inr rfl, (below_drewN ((Below.refl D w).alloc (by omega) _) _).setCell (Nat.le_refl _) _, ⟨?_, ?_, ?_, ?_, ?_⟩⟩)
    | (have h4 : c = 4 := by assumption
       refine ⟨rfl, o, Or.inl rfl, (below_drewN ((Below.refl D w).alloc (by omega) _) _).setCell (Nat.le_refl _) _, ⟨?_, ?_, ?_, ?_, ?_⟩⟩)
  all_goals go_simp
end Go.Proofs.YbulkcljkFmt
