/- bits.Len, out of the library's contracts, laid over this program. -/
import Derived.Shelf.Small.Bits
import Derived.Shelf.Strconv.Itoa0
import Derived.Test.YtglgmkikegbchaaProg
namespace Go.Proofs.Ytglgmkikegbchaa
open Go.Shelf Go.Proofs
def lays125_ren : Go.Shelf.Ren := ⟨fun | 125 => 77 | 128 => 102 | 129 => 103 | n => n, fun | 46 => 114 | 3 => 3 | 51 => 141 | 53 => 23 | 4 => 4 | 5 => 5 | 9 => 9 | n => n, fun | n => n⟩
theorem lays125 : Go.Proofs.Lays.n125 Try.prog lays125_ren := {
  mixed := by kernel_rfl
  f125 := Try.func77.trans (congrArg some (by kernel_rfl))
  f128 := Try.func102.trans (congrArg some (by kernel_rfl))
  f129 := Try.func103.trans (congrArg some (by kernel_rfl))
  t3 := Try.underlying3
  a3 := Try.isAgg3
  z3 := Try.sizeOf3
  v3 := Try.zeroValue3
  t4 := Try.underlying4
  a4 := Try.isAgg4
  z4 := Try.sizeOf4
  v4 := Try.zeroValue4
  t5 := Try.underlying5
  a5 := Try.isAgg5
  z5 := Try.sizeOf5
  v5 := Try.zeroValue5
  t9 := Try.underlying9
  a9 := Try.isAgg9
  z9 := Try.sizeOf9
  v9 := Try.zeroValue9
  t46 := Try.underlying114
  a46 := Try.isAgg114
  z46 := Try.sizeOf114
  v46 := Try.zeroValue114
  t51 := Try.underlying141
  a51 := Try.isAgg141
  z51 := Try.sizeOf141
  v51 := Try.zeroValue141
  t53 := Try.underlying23
  a53 := Try.isAgg23
  z53 := Try.sizeOf23
  v53 := Try.zeroValue23 }
/-- bits.Len gives the number of bits. -/
theorem bits_Len (x : Int) (w : World) (h0 : 0 ≤ x) (h1 : x ≤ 18446744073709551615) :
    Calls Try.prog 77 #[.int .u64 x] w fun e w' => e = .returned (.int .i64 (Lib.bitLen x.toNat)) ∧ w' = w := Any.bits_Len lays125 x w h0 h1

end Go.Proofs.Ytglgmkikegbchaa
