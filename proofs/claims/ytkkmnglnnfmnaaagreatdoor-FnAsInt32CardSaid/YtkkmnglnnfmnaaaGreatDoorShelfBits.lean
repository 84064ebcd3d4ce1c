/- The library's contract of bits.Len at this translation. -/
import Derived.Shelf.Small.Bits
import Derived.Shelf.Strconv.Itoa0
import Derived.Test.YtkkmnglnnfmnaaaGreatDoorProg
namespace Go.Proofs.YtkkmnglnnfmnaaaGreatDoor
open Go.Shelf
def Tryz.lays129_ren : Go.Shelf.Ren := ⟨fun | 129 => 65 | n => n, fun | 3 => 3 | 4 => 4 | 5 => 5 | 9 => 9 | 46 => 51 | 53 => 25 | n => n, fun | n => n⟩
theorem Tryz.lays129 : Go.Proofs.Lays.n129 Tryz.prog Tryz.lays129_ren := {
  mixed := by kernel_rfl
  f129 := Tryz.func65.trans (congrArg some (by kernel_rfl))
  t3 := Tryz.underlying3
  a3 := Tryz.isAgg3
  z3 := Tryz.sizeOf3
  v3 := Tryz.zeroValue3
  t4 := Tryz.underlying4
  a4 := Tryz.isAgg4
  z4 := Tryz.sizeOf4
  v4 := Tryz.zeroValue4
  t5 := Tryz.underlying5
  a5 := Tryz.isAgg5
  z5 := Tryz.sizeOf5
  v5 := Tryz.zeroValue5
  t9 := Tryz.underlying9
  a9 := Tryz.isAgg9
  z9 := Tryz.sizeOf9
  v9 := Tryz.zeroValue9
  t46 := Tryz.underlying51
  a46 := Tryz.isAgg51
  z46 := Tryz.sizeOf51
  v46 := Tryz.zeroValue51
  t53 := Tryz.underlying25
  a53 := Tryz.isAgg25
  z53 := Tryz.sizeOf25
  v53 := Tryz.zeroValue25
}
def Tryz.lays125_ren : Go.Shelf.Ren := ⟨fun | 125 => 57 | 128 => 64 | 129 => 65 | n => n, fun | 3 => 3 | 4 => 4 | 5 => 5 | 9 => 9 | 46 => 51 | 51 => 82 | 53 => 25 | n => n, fun | n => n⟩
theorem Tryz.lays125 : Go.Proofs.Lays.n125 Tryz.prog Tryz.lays125_ren := {
  mixed := by kernel_rfl
  f125 := Tryz.func57.trans (congrArg some (by kernel_rfl))
  f128 := Tryz.func64.trans (congrArg some (by kernel_rfl))
  f129 := Tryz.func65.trans (congrArg some (by kernel_rfl))
  t3 := Tryz.underlying3
  a3 := Tryz.isAgg3
  z3 := Tryz.sizeOf3
  v3 := Tryz.zeroValue3
  t4 := Tryz.underlying4
  a4 := Tryz.isAgg4
  z4 := Tryz.sizeOf4
  v4 := Tryz.zeroValue4
  t5 := Tryz.underlying5
  a5 := Tryz.isAgg5
  z5 := Tryz.sizeOf5
  v5 := Tryz.zeroValue5
  t9 := Tryz.underlying9
  a9 := Tryz.isAgg9
  z9 := Tryz.sizeOf9
  v9 := Tryz.zeroValue9
  t46 := Tryz.underlying51
  a46 := Tryz.isAgg51
  z46 := Tryz.sizeOf51
  v46 := Tryz.zeroValue51
  t51 := Tryz.underlying82
  a51 := Tryz.isAgg82
  z51 := Tryz.sizeOf82
  v51 := Tryz.zeroValue82
  t53 := Tryz.underlying25
  a53 := Tryz.isAgg25
  z53 := Tryz.sizeOf25
  v53 := Tryz.zeroValue25
}
theorem bitsLen (x : Int) (w : World) (h0 : 0 ≤ x) (h1 : x ≤ 18446744073709551615) :
    Calls Tryz.prog 57 #[.int .u64 x] w fun e w' => e = .returned (.int .i64 (Lib.bitLen x.toNat)) ∧ w' = w := Any.bits_Len Tryz.lays125 x w h0 h1
#print axioms bitsLen
end Go.Proofs.YtkkmnglnnfmnaaaGreatDoor
