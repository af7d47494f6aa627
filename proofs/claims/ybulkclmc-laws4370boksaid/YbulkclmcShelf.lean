import Derived.Shelf.Small.Bits
import Derived.Test.YbulkclmcProg
namespace Go.Proofs
open Go.Shelf
def Yba.lays125_ren : Go.Shelf.Ren := ⟨fun | 125 => 42 | 128 => 51 | 129 => 52 | n => n, fun | 46 => 108 | 3 => 3 | 51 => 180 | 53 => 44 | 4 => 4 | 5 => 5 | 9 => 9 | n => n, fun | n => n⟩
theorem Yba.lays125 : Go.Proofs.Lays.n125 Yba.prog Yba.lays125_ren := {
  mixed := by kernel_rfl
  f125 := Yba.func42.trans (congrArg some (by kernel_rfl))
  f128 := Yba.func51.trans (congrArg some (by kernel_rfl))
  f129 := Yba.func52.trans (congrArg some (by kernel_rfl))
  t3 := Yba.underlying3
  a3 := Yba.isAgg3
  z3 := Yba.sizeOf3
  v3 := Yba.zeroValue3
  t4 := Yba.underlying4
  a4 := Yba.isAgg4
  z4 := Yba.sizeOf4
  v4 := Yba.zeroValue4
  t5 := Yba.underlying5
  a5 := Yba.isAgg5
  z5 := Yba.sizeOf5
  v5 := Yba.zeroValue5
  t9 := Yba.underlying9
  a9 := Yba.isAgg9
  z9 := Yba.sizeOf9
  v9 := Yba.zeroValue9
  t46 := Yba.underlying108
  a46 := Yba.isAgg108
  z46 := Yba.sizeOf108
  v46 := Yba.zeroValue108
  t51 := Yba.underlying180
  a51 := Yba.isAgg180
  z51 := Yba.sizeOf180
  v51 := Yba.zeroValue180
  t53 := Yba.underlying44
  a53 := Yba.isAgg44
  z53 := Yba.sizeOf44
  v53 := Yba.zeroValue44 }
theorem Yba.bits_Len (x : Int) (w : World) (h0 : 0 ≤ x) (h1 : x ≤ 18446744073709551615) :
    Calls Yba.prog 42 #[.int .u64 x] w fun e w' => e = .returned (.int .i64 (Lib.bitLen x.toNat)) ∧ w' = w := Any.bits_Len Yba.lays125 x w h0 h1
end Go.Proofs
