/-
  THE SHELF's CONTRACT OF math.bits.Len AT THIS DUMP, in plain words (written by the kit's lay-plain tool).
-/
import Derived.Shelf.Small.Bits
import Derived.Test.Qxb6615056aFmtProg
namespace Go.Proofs
open Go.Shelf
def Tryf.lays125_ren : Go.Shelf.Ren := ⟨fun | 125 => 67 | 128 => 71 | 129 => 72 | n => n, fun | 46 => 79 | 3 => 3 | 51 => 128 | 53 => 30 | 4 => 4 | 5 => 5 | 9 => 9 | n => n, fun | n => n⟩
theorem Tryf.lays125 : Go.Proofs.Lays.n125 Tryf.prog Tryf.lays125_ren := {
  mixed := by kernel_rfl
  f125 := Tryf.func67.trans (congrArg some (by kernel_rfl))
  f128 := Tryf.func71.trans (congrArg some (by kernel_rfl))
  f129 := Tryf.func72.trans (congrArg some (by kernel_rfl))
  t3 := Tryf.underlying3
  a3 := Tryf.isAgg3
  z3 := Tryf.sizeOf3
  v3 := Tryf.zeroValue3
  t4 := Tryf.underlying4
  a4 := Tryf.isAgg4
  z4 := Tryf.sizeOf4
  v4 := Tryf.zeroValue4
  t5 := Tryf.underlying5
  a5 := Tryf.isAgg5
  z5 := Tryf.sizeOf5
  v5 := Tryf.zeroValue5
  t9 := Tryf.underlying9
  a9 := Tryf.isAgg9
  z9 := Tryf.sizeOf9
  v9 := Tryf.zeroValue9
  t46 := Tryf.underlying79
  a46 := Tryf.isAgg79
  z46 := Tryf.sizeOf79
  v46 := Tryf.zeroValue79
  t51 := Tryf.underlying128
  a51 := Tryf.isAgg128
  z51 := Tryf.sizeOf128
  v51 := Tryf.zeroValue128
  t53 := Tryf.underlying30
  a53 := Tryf.isAgg30
  z53 := Tryf.sizeOf30
  v53 := Tryf.zeroValue30 }
theorem Tryf.bits_Len (x : Int) (w : World) (h0 : 0 ≤ x) (h1 : x ≤ 18446744073709551615) :
    Calls Tryf.prog 67 #[.int .u64 x] w fun e w' => e = .returned (.int .i64 (Lib.bitLen x.toNat)) ∧ w' = w := Any.bits_Len Tryf.lays125 x w h0 h1
end Go.Proofs
