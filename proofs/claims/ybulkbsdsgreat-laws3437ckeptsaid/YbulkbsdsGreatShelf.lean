/-
  math/bits.Len off the shelf, at this program.
-/
import Derived.Shelf.Small.Bits
import Derived.Test.YbulkbsdsGreatProg
namespace Go.Proofs
open Go.Shelf
def Ybaz.lays125_ren : Go.Shelf.Ren := ⟨fun | 125 => 9 | 128 => 14 | 129 => 15 | n => n, fun | 46 => 136 | 3 => 3 | 51 => 122 | 53 => 146 | 4 => 4 | 5 => 5 | 9 => 9 | n => n, fun | n => n⟩
theorem Ybaz.lays125 : Go.Proofs.Lays.n125 Ybaz.prog Ybaz.lays125_ren := {
  mixed := by kernel_rfl
  f125 := Ybaz.func9.trans (congrArg some (by kernel_rfl))
  f128 := Ybaz.func14.trans (congrArg some (by kernel_rfl))
  f129 := Ybaz.func15.trans (congrArg some (by kernel_rfl))
  t3 := Ybaz.underlying3
  a3 := Ybaz.isAgg3
  z3 := Ybaz.sizeOf3
  v3 := Ybaz.zeroValue3
  t4 := Ybaz.underlying4
  a4 := Ybaz.isAgg4
  z4 := Ybaz.sizeOf4
  v4 := Ybaz.zeroValue4
  t5 := Ybaz.underlying5
  a5 := Ybaz.isAgg5
  z5 := Ybaz.sizeOf5
  v5 := Ybaz.zeroValue5
  t9 := Ybaz.underlying9
  a9 := Ybaz.isAgg9
  z9 := Ybaz.sizeOf9
  v9 := Ybaz.zeroValue9
  t46 := Ybaz.underlying136
  a46 := Ybaz.isAgg136
  z46 := Ybaz.sizeOf136
  v46 := Ybaz.zeroValue136
  t51 := Ybaz.underlying122
  a51 := Ybaz.isAgg122
  z51 := Ybaz.sizeOf122
  v51 := Ybaz.zeroValue122
  t53 := Ybaz.underlying146
  a53 := Ybaz.isAgg146
  z53 := Ybaz.sizeOf146
  v53 := Ybaz.zeroValue146 }
theorem Ybaz.bits_Len (x : Int) (w : World) (h0 : 0 ≤ x) (h1 : x ≤ 18446744073709551615) :
    Calls Ybaz.prog 9 #[.int .u64 x] w fun e w' => e = .returned (.int .i64 (Lib.bitLen x.toNat)) ∧ w' = w := Any.bits_Len Ybaz.lays125 x w h0 h1
end Go.Proofs
