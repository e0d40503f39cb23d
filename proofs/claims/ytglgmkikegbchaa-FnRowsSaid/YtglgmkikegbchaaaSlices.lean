/- slices.Clone, Delete, Insert, Index, Contains at []int, out of the library's contracts, laid over this program. -/
import Derived.Shelf.Slices.Clone
import Derived.Shelf.Slices.Delete
import Derived.Shelf.Slices.Turned
import Derived.Shelf.Spec.SlicesInsert
import Derived.Shelf.Spec.SlicesInsertGrow
import Derived.Test.YtglgmkikegbchaaaOwn
import Derived.Test.YtglgmkikegbchaaProg
namespace Go.Proofs.Ytglgmkikegbchaa
open Go.Shelf Go.Proofs Go.RowKit
def laysn15_ren : Go.Shelf.Ren := ⟨fun | 15 => 59 | n => n, fun | 3 => 3 | 4 => 4 | 22 => 59 | n => n, fun | n => n⟩
theorem laysn15 : Go.Proofs.Lays2.n15 Try.prog laysn15_ren := {
  mixed := by kernel_rfl
  f15 := Try.func59.trans (congrArg some (by kernel_rfl))
  t3 := Try.underlying3
  a3 := Try.isAgg3
  z3 := Try.sizeOf3
  v3 := Try.zeroValue3
  t4 := Try.underlying4
  a4 := Try.isAgg4
  z4 := Try.sizeOf4
  v4 := Try.zeroValue4
  t22 := Try.underlying59
  a22 := Try.isAgg59
  z22 := Try.sizeOf59
  v22 := Try.zeroValue59
  i3 := by kernel_rfl
  }
def laysn23_ren : Go.Shelf.Ren := ⟨fun | 23 => 85 | n => n, fun | 0 => 0 | 3 => 3 | 4 => 4 | 22 => 59 | n => n, fun | n => n⟩
theorem laysn23 : Go.Proofs.Lays2.n23 Try.prog laysn23_ren := {
  mixed := by kernel_rfl
  f23 := Try.func85.trans (congrArg some (by kernel_rfl))
  t0 := Try.underlying0
  a0 := Try.isAgg0
  z0 := Try.sizeOf0
  v0 := Try.zeroValue0
  t3 := Try.underlying3
  a3 := Try.isAgg3
  z3 := Try.sizeOf3
  v3 := Try.zeroValue3
  t4 := Try.underlying4
  a4 := Try.isAgg4
  z4 := Try.sizeOf4
  v4 := Try.zeroValue4
  t22 := Try.underlying59
  a22 := Try.isAgg59
  z22 := Try.sizeOf59
  v22 := Try.zeroValue59
  i3 := by kernel_rfl
  }
def laysn21_ren : Go.Shelf.Ren := ⟨fun | 21 => 86 | 27 => 115 | 28 => 116 | 35 => 148 | 39 => 161 | n => n, fun | 0 => 0 | 3 => 3 | 4 => 4 | 22 => 59 | n => n, fun | n => n⟩
theorem laysn21 : Go.Proofs.Lays2.n21 Try.prog laysn21_ren := {
  mixed := by kernel_rfl
  f21 := Try.func86.trans (congrArg some (by kernel_rfl))
  f27 := Try.func115.trans (congrArg some (by kernel_rfl))
  f28 := Try.func116.trans (congrArg some (by kernel_rfl))
  f35 := Try.func148.trans (congrArg some (by kernel_rfl))
  f39 := Try.func161.trans (congrArg some (by kernel_rfl))
  t0 := Try.underlying0
  a0 := Try.isAgg0
  z0 := Try.sizeOf0
  v0 := Try.zeroValue0
  t3 := Try.underlying3
  a3 := Try.isAgg3
  z3 := Try.sizeOf3
  v3 := Try.zeroValue3
  t4 := Try.underlying4
  a4 := Try.isAgg4
  z4 := Try.sizeOf4
  v4 := Try.zeroValue4
  t22 := Try.underlying59
  a22 := Try.isAgg59
  z22 := Try.sizeOf59
  v22 := Try.zeroValue59
  i3 := by kernel_rfl
  }
def laysn108_ren : Go.Shelf.Ren := ⟨fun | 108 => 83 | n => n, fun | 0 => 0 | 3 => 3 | 4 => 4 | 28 => 59 | n => n, fun | n => n⟩
theorem laysn108 : Go.Proofs.Lays.n108 Try.prog laysn108_ren := {
  mixed := by kernel_rfl
  f108 := Try.func83.trans (congrArg some (by kernel_rfl))
  t0 := Try.underlying0
  a0 := Try.isAgg0
  z0 := Try.sizeOf0
  v0 := Try.zeroValue0
  t3 := Try.underlying3
  a3 := Try.isAgg3
  z3 := Try.sizeOf3
  v3 := Try.zeroValue3
  t4 := Try.underlying4
  a4 := Try.isAgg4
  z4 := Try.sizeOf4
  v4 := Try.zeroValue4
  t28 := Try.underlying59
  a28 := Try.isAgg59
  z28 := Try.sizeOf59
  v28 := Try.zeroValue59
  }
def laysn107_ren : Go.Shelf.Ren := ⟨fun | 107 => 87 | 108 => 83 | n => n, fun | 0 => 0 | 3 => 3 | 4 => 4 | 28 => 59 | n => n, fun | n => n⟩
theorem laysn107 : Go.Proofs.Lays.n107 Try.prog laysn107_ren := {
  mixed := by kernel_rfl
  f107 := Try.func87.trans (congrArg some (by kernel_rfl))
  f108 := Try.func83.trans (congrArg some (by kernel_rfl))
  t0 := Try.underlying0
  a0 := Try.isAgg0
  z0 := Try.sizeOf0
  v0 := Try.zeroValue0
  t3 := Try.underlying3
  a3 := Try.isAgg3
  z3 := Try.sizeOf3
  v3 := Try.zeroValue3
  t4 := Try.underlying4
  a4 := Try.isAgg4
  z4 := Try.sizeOf4
  v4 := Try.zeroValue4
  t28 := Try.underlying59
  a28 := Try.isAgg59
  z28 := Try.sizeOf59
  v28 := Try.zeroValue59
  }
end Go.Proofs.Ytglgmkikegbchaa
