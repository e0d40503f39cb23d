/- bits.Len, out of the library's contracts, laid over this program. -/
import Derived.Shelf.Small.Bits
import Derived.Shelf.Strconv.Itoa0
import Derived.Test.YtglgmkikegbchaaGreatProg
namespace Go.Proofs.YtglgmkikegbchaaGreat
open Go.Shelf Go.Proofs
def lays125_ren : Go.Shelf.Ren := ⟨fun | 125 => 120 | 128 => 172 | 129 => 173 | n => n, fun | 46 => 92 | 3 => 3 | 51 => 130 | 53 => 23 | 4 => 4 | 5 => 5 | 9 => 9 | n => n, fun | n => n⟩
theorem lays125 : Go.Proofs.Lays.n125 Tryz.prog lays125_ren := {
  mixed := by kernel_rfl
  f125 := Tryz.func120.trans (congrArg some (by kernel_rfl))
  f128 := Tryz.func172.trans (congrArg some (by kernel_rfl))
  f129 := Tryz.func173.trans (congrArg some (by kernel_rfl))
  t3 := Tryz.underlying3
  a3 := Tryz.isAgg3
  z3 := Tryz.sizeOf3
  v3 := Tryz.zeroValue3
  t4 := Tryz.underlying4
  a4 := Tryz.isAgg4
  z4 := Tryz.sizeOf4
  v4 := Tryz.zeroValue4
  t5 := Tryz.underlying5
  a5 := Tryz.isAgg5
  z5 := Tryz.sizeOf5
  v5 := Tryz.zeroValue5
  t9 := Tryz.underlying9
  a9 := Tryz.isAgg9
  z9 := Tryz.sizeOf9
  v9 := Tryz.zeroValue9
  t46 := Tryz.underlying92
  a46 := Tryz.isAgg92
  z46 := Tryz.sizeOf92
  v46 := Tryz.zeroValue92
  t51 := Tryz.underlying130
  a51 := Tryz.isAgg130
  z51 := Tryz.sizeOf130
  v51 := Tryz.zeroValue130
  t53 := Tryz.underlying23
  a53 := Tryz.isAgg23
  z53 := Tryz.sizeOf23
  v53 := Tryz.zeroValue23 }
/-- bits.Len gives the number of bits. -/
theorem bits_Len (x : Int) (w : World) (h0 : 0 ≤ x) (h1 : x ≤ 18446744073709551615) :
    Calls Tryz.prog 120 #[.int .u64 x] w fun e w' => e = .returned (.int .i64 (Lib.bitLen x.toNat)) ∧ w' = w := Any.bits_Len lays125 x w h0 h1

end Go.Proofs.YtglgmkikegbchaaGreat
