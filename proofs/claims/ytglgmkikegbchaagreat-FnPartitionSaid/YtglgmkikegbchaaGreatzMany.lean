/- impl.many of each function (printed by gen/numok.py). -/
import Derived.Test.YtglgmkikegbchaaGreatzNum
namespace Go.Proofs.YtglgmkikegbchaaGreat
open Go.RowKit Go.Sort

theorem many_0 (W : World) : Calls Tryz.prog 40 #[.int .i64 0] W fun e w' => e = .returned (.int .i64 ((2 : Nat) : Int)) ∧ w' = W := by
  go_enter Tryz.func40, Tryz.ntmps40
  go_wp2
  go_ret
  exact ⟨rfl, rfl⟩
theorem many_1 (W : World) : Calls Tryz.prog 40 #[.int .i64 1] W fun e w' => e = .returned (.int .i64 ((3 : Nat) : Int)) ∧ w' = W := by
  go_enter Tryz.func40, Tryz.ntmps40
  go_wp2
  go_ret
  exact ⟨rfl, rfl⟩
theorem many_2 (W : World) : Calls Tryz.prog 40 #[.int .i64 2] W fun e w' => e = .returned (.int .i64 ((2 : Nat) : Int)) ∧ w' = W := by
  go_enter Tryz.func40, Tryz.ntmps40
  go_wp2
  go_ret
  exact ⟨rfl, rfl⟩
theorem many_3 (W : World) : Calls Tryz.prog 40 #[.int .i64 3] W fun e w' => e = .returned (.int .i64 ((3 : Nat) : Int)) ∧ w' = W := by
  go_enter Tryz.func40, Tryz.ntmps40
  go_wp2
  go_ret
  exact ⟨rfl, rfl⟩
theorem many_4 (W : World) : Calls Tryz.prog 40 #[.int .i64 4] W fun e w' => e = .returned (.int .i64 ((3 : Nat) : Int)) ∧ w' = W := by
  go_enter Tryz.func40, Tryz.ntmps40
  go_wp2
  go_ret
  exact ⟨rfl, rfl⟩
theorem many_5 (W : World) : Calls Tryz.prog 40 #[.int .i64 5] W fun e w' => e = .returned (.int .i64 ((3 : Nat) : Int)) ∧ w' = W := by
  go_enter Tryz.func40, Tryz.ntmps40
  go_wp2
  go_ret
  exact ⟨rfl, rfl⟩
theorem many_6 (W : World) : Calls Tryz.prog 40 #[.int .i64 6] W fun e w' => e = .returned (.int .i64 ((2 : Nat) : Int)) ∧ w' = W := by
  go_enter Tryz.func40, Tryz.ntmps40
  go_wp2
  go_ret
  exact ⟨rfl, rfl⟩
theorem many_7 (W : World) : Calls Tryz.prog 40 #[.int .i64 7] W fun e w' => e = .returned (.int .i64 ((2 : Nat) : Int)) ∧ w' = W := by
  go_enter Tryz.func40, Tryz.ntmps40
  go_wp2
  go_ret
  exact ⟨rfl, rfl⟩
theorem many_8 (W : World) : Calls Tryz.prog 40 #[.int .i64 8] W fun e w' => e = .returned (.int .i64 ((2 : Nat) : Int)) ∧ w' = W := by
  go_enter Tryz.func40, Tryz.ntmps40
  go_wp2
  go_ret
  exact ⟨rfl, rfl⟩
theorem many_9 (W : World) : Calls Tryz.prog 40 #[.int .i64 9] W fun e w' => e = .returned (.int .i64 ((2 : Nat) : Int)) ∧ w' = W := by
  go_enter Tryz.func40, Tryz.ntmps40
  go_wp2
  go_ret
  exact ⟨rfl, rfl⟩
theorem many_10 (W : World) : Calls Tryz.prog 40 #[.int .i64 10] W fun e w' => e = .returned (.int .i64 ((3 : Nat) : Int)) ∧ w' = W := by
  go_enter Tryz.func40, Tryz.ntmps40
  go_wp2
  go_ret
  exact ⟨rfl, rfl⟩
theorem many_11 (W : World) : Calls Tryz.prog 40 #[.int .i64 11] W fun e w' => e = .returned (.int .i64 ((1 : Nat) : Int)) ∧ w' = W := by
  go_enter Tryz.func40, Tryz.ntmps40
  go_wp2
  go_ret
  exact ⟨rfl, rfl⟩
theorem many_12 (W : World) : Calls Tryz.prog 40 #[.int .i64 12] W fun e w' => e = .returned (.int .i64 ((2 : Nat) : Int)) ∧ w' = W := by
  go_enter Tryz.func40, Tryz.ntmps40
  go_wp2
  go_ret
  exact ⟨rfl, rfl⟩
theorem many_13 (W : World) : Calls Tryz.prog 40 #[.int .i64 13] W fun e w' => e = .returned (.int .i64 ((3 : Nat) : Int)) ∧ w' = W := by
  go_enter Tryz.func40, Tryz.ntmps40
  go_wp2
  go_ret
  exact ⟨rfl, rfl⟩
theorem many_14 (W : World) : Calls Tryz.prog 40 #[.int .i64 14] W fun e w' => e = .returned (.int .i64 ((1 : Nat) : Int)) ∧ w' = W := by
  go_enter Tryz.func40, Tryz.ntmps40
  go_wp2
  go_ret
  exact ⟨rfl, rfl⟩
theorem many_15 (W : World) : Calls Tryz.prog 40 #[.int .i64 15] W fun e w' => e = .returned (.int .i64 ((3 : Nat) : Int)) ∧ w' = W := by
  go_enter Tryz.func40, Tryz.ntmps40
  go_wp2
  go_ret
  exact ⟨rfl, rfl⟩
theorem many_16 (W : World) : Calls Tryz.prog 40 #[.int .i64 16] W fun e w' => e = .returned (.int .i64 ((3 : Nat) : Int)) ∧ w' = W := by
  go_enter Tryz.func40, Tryz.ntmps40
  go_wp2
  go_ret
  exact ⟨rfl, rfl⟩
end Go.Proofs.YtglgmkikegbchaaGreat
