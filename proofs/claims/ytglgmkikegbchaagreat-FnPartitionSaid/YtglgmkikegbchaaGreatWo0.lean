/- cmp.Less at int64. -/
import Derived.Test.YtglgmkikegbchaaGreatProg
import Derived.Test.YtglgmkikegbchaaGreatKa
namespace Go.Proofs.YtglgmkikegbchaaGreat
open Go.RowKit Go.Sort

abbrev e64 : Int → Value := fun x => Value.int .i64 x
theorem less_o (x y : Int) (w : World) : Calls Tryz.prog 178 #[.int .i64 x, .int .i64 y] w fun e w' => e = .returned (.bool (ltInt x y)) ∧ w' = w := by
  go_enter Tryz.func178, Tryz.ntmps178
  go_wp2
  all_goals go_ret
  all_goals exact ⟨rfl, rfl⟩
end Go.Proofs.YtglgmkikegbchaaGreat
