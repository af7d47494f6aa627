import Derived.Test.YbulkcljkFmtCards
import Derived.WalkKit
import Derived.WalkSpells
import Derived.WalkLawsBesides
import Derived.Stop.CallBack
import Derived.Stop.IfaceNil
import Derived.Shelf.Bytes.SlEqualAll
import Derived.Deep.QuietTactic
import Derived.BigQuiet
import Derived.Deep.RegionWith
import Derived.Laws.BitsAllLaws
namespace Go.Proofs.YbulkcljkFmt
open Go.RowKit Go.Extern.Stop Go.Stop Go.Extern

theorem call11 (args : Array Value) (w : World) : (callFunc 11 args).run Ybaf.prog w = ((FmtStop.errorf #[9, 45] #[27] args).run Ybaf.prog w).andThen fun v w' => .ok (.value v) w' :=
  run_callFunc_extern Ybaf.func11 (by kernel_rfl) (by kernel_rfl) (by kernel_rfl) (by kernel_rfl) args w
theorem guard0 (name : String) (w : World) : (FmtStop.guard name).run Ybaf.prog w = .ok () w := by kernel_rfl
theorem fmt0 : FmtStop.printed? ⟨#[107, 101, 121, 32, 100, 97, 116, 97, 32, 101, 110, 100, 115, 32, 105, 110, 115, 105, 100, 101, 32, 37, 115]⟩ 1 = some [(0, 115, false)] := by kernel_rfl
theorem fmt0r (w : World) : (FmtDoors.printed ⟨#[107, 101, 121, 32, 100, 97, 116, 97, 32, 101, 110, 100, 115, 32, 105, 110, 115, 105, 100, 101, 32, 37, 115]⟩ 1).run Ybaf.prog w = .ok [(0, 115, false)] w := by kernel_rfl
def shape9 : List UInt8 := [12, 6, 0, 0, 0, 0, 0, 0, 0, 115, 116, 114, 105, 110, 103]
theorem op9_115 (name : String) (b : Bool) (x : ByteArray) (w : World) : (FmtStop.operand name b 115 false (.iface 9 (.string x))).run Ybaf.prog w = .ok (shape9, FmtStop.pack x.data.toList) w := by cases b <;> kernel_rfl
theorem ptr39 (w : World) : (FmtStop.ptrTo "errors.errorString").run Ybaf.prog w = .ok 39 w := by kernel_rfl
theorem elem39 (w : World) : (elemOf 39).run Ybaf.prog w = .ok 41 w := by kernel_rfl
theorem isError39 (w : World) : (FmtDoors.textMethod 39 "Error").run Ybaf.prog w = .ok true w := by kernel_rfl

attribute [local go_sem] call11 guard0 fmt0 fmt0r op9_115 ptr39 elem39 isError39

def fmtBytes : ByteArray := ⟨#[107, 101, 121, 32, 100, 97, 116, 97, 32, 101, 110, 100, 115, 32, 105, 110, 115, 105, 100, 101, 32, 37, 115]⟩

set_option maxHeartbeats 400000 in
theorem errorf_any (F : Interp) (x : ByteArray) (b : Nat) (w : World) (hF : F.answers w.tape) (hc : w.cell? ⟨b, 0, none⟩ = some (.iface 9 (.string x))) :
    Calls Ybaf.prog 9 #[.string ⟨#[107, 101, 121, 32, 100, 97, 116, 97, 32, 101, 110, 100, 115, 32, 105, 110, 115, 105, 100, 101, 32, 37, 115]⟩, .slice (some ⟨b, 0, none⟩) 1 1] w fun e w' => ∃ s, e = .returned (.iface 39 (.pointer (some ⟨w.heap.size, 0, none⟩))) ∧ w' = (w.alloc (.cells #[.string s] 41)).drew := by
  have hF' := answers_open hF
  go_enter Ybaf.func9, Ybaf.ntmps9
  go_wp2
  go_ret
  exact ⟨_, rfl, rfl⟩

set_option maxHeartbeats 400000 in
theorem equal_any (p1 p2 : Option Addr) (n c d : Nat) (xs : List Int) (w : World) (hx : xs.length = n) (h1 : Lib.BytesIn w p1 n xs) (h2 : Lib.BytesIn w p2 n xs) :
    Calls Ybaf.prog 6 #[.slice p1 n c, .slice p2 n d] w fun e w' => e = .returned (.bool true) ∧ w' = w := by
  have e1 := h1.convert (P := Ybaf.prog) hx c 22 5 9 Ybaf.underlying22 Ybaf.underlying5 Ybaf.underlying9
  have e2 := h2.convert (P := Ybaf.prog) hx d 22 5 9 Ybaf.underlying22 Ybaf.underlying5 Ybaf.underlying9
  clear h1 h2
  go_enter Ybaf.func6, Ybaf.ntmps6
  go_wp2
  go_ret
  exact ⟨rfl, rfl⟩

theorem or_mul (a b i m : Nat) (hm : m = 2 ^ i) (h : a < m) : a ||| (b * m) = b * m + a := by
  subst hm
  rw [Nat.or_comm, ← Nat.shiftLeft_eq, Nat.shiftLeft_add_eq_or_of_lt h]

def be4 (b0 b1 b2 b3 : Int) : Int := b0 * 16777216 + b1 * 65536 + b2 * 256 + b3

theorem be4_rng (x0 x1 x2 x3 : Int) (r0 : 0 ≤ x0 ∧ x0 ≤ 255) (r1 : 0 ≤ x1 ∧ x1 ≤ 255) (r2 : 0 ≤ x2 ∧ x2 ≤ 255) (r3 : 0 ≤ x3 ∧ x3 ≤ 255) : 0 ≤ be4 x0 x1 x2 x3 ∧ be4 x0 x1 x2 x3 ≤ 4294967295 := by
  unfold be4; omega

theorem be32_sum (x0 x1 x2 x3 : Int) (r0 : 0 ≤ x0 ∧ x0 ≤ 255) (r1 : 0 ≤ x1 ∧ x1 ≤ 255) (r2 : 0 ≤ x2 ∧ x2 ≤ 255) (r3 : 0 ≤ x3 ∧ x3 ≤ 255) :
    bits BinOp.or IntKind.u32 (bits BinOp.or IntKind.u32 (bits BinOp.or IntKind.u32 x3 (x2 * 256)) (x1 * 65536)) (x0 * 16777216) = be4 x0 x1 x2 x3 := by
  obtain ⟨n0, rfl⟩ := Int.eq_ofNat_of_zero_le r0.1
  obtain ⟨n1, rfl⟩ := Int.eq_ofNat_of_zero_le r1.1
  obtain ⟨n2, rfl⟩ := Int.eq_ofNat_of_zero_le r2.1
  obtain ⟨n3, rfl⟩ := Int.eq_ofNat_of_zero_le r3.1
  have e2 : ((n2 : Int) * 256) = ((n2 * 256 : Nat) : Int) := by omega
  have e1 : ((n1 : Int) * 65536) = ((n1 * 65536 : Nat) : Int) := by omega
  have e0 : ((n0 : Int) * 16777216) = ((n0 * 16777216 : Nat) : Int) := by omega
  rw [e2, e1, e0, u32_or_nat n3 (n2 * 256) (by omega) (by omega), or_mul n3 n2 8 256 (by decide) (by omega), u32_or_nat _ (n1 * 65536) (by omega) (by omega), or_mul _ n1 16 65536 (by decide) (by omega), u32_or_nat _ (n0 * 16777216) (by omega) (by omega), or_mul _ n0 24 16777216 (by decide) (by omega)]
  unfold be4
  omega

theorem ret_int {k : IntKind} {a b : Int} (h : a = b) : Ending.returned (.int k a) = .returned (.int k b) := by rw [h]

set_option maxHeartbeats 400000 in
theorem be_any (g o n c : Nat) (b0 b1 b2 b3 : Int) (w : World) (hn : 4 ≤ n)
    (r0 : 0 ≤ b0 ∧ b0 ≤ 255) (r1 : 0 ≤ b1 ∧ b1 ≤ 255) (r2 : 0 ≤ b2 ∧ b2 ≤ 255) (r3 : 0 ≤ b3 ∧ b3 ≤ 255)
    (c0 : w.cell? ⟨g, o, none⟩ = some (.int .u8 b0)) (c1 : w.cell? ⟨g, o + 1, none⟩ = some (.int .u8 b1)) (c2 : w.cell? ⟨g, o + 2, none⟩ = some (.int .u8 b2)) (c3 : w.cell? ⟨g, o + 3, none⟩ = some (.int .u8 b3)) :
    Calls Ybaf.prog 10 #[.agg #[], .slice (some ⟨g, o, none⟩) n c] w fun e w' => e = .returned (.int .u32 (be4 b0 b1 b2 b3)) ∧ ∃ q, w' = (w.alloc (.cells #[] 43)).drewN q := by
  have hg : g < w.heap.size := World.block_lt_of_cell? _ _ c0
  have i0 : (0 : Int) < (n : Int) := by omega
  have i1 : (1 : Int) < (n : Int) := by omega
  have i2 : (2 : Int) < (n : Int) := by omega
  have i3 : (3 : Int) < (n : Int) := by omega
  go_enter Ybaf.func10, Ybaf.ntmps10
  go_wp2
  go_quiet (fail)
  go_wp2
  go_ret
  exact ⟨ret_int (be32_sum b0 b1 b2 b3 r0 r1 r2 r3), _, rfl⟩
end Go.Proofs.YbulkcljkFmt
