/- cmp.Less at float64. -/
import Derived.Test.YtglgmkikegbchaaaNums
import Derived.Test.YtglgmkikegbchaaKa
namespace Go.Proofs.Ytglgmkikegbchaa
open Go.RowKit Go.Sort

theorem run_store_float {P : Program} {w : World} {a : Addr} {m : Mode} (k : FloatKind) (n : Nat) : (store a (.float k n) m).run P w = stored P w a (.float k n) m := run_store P w a _ m rfl

theorem less_x (x y : Nat) (w : World) : Calls Try.prog 124 #[.float .f64 x, .float .f64 y] w fun e w' => e = .returned (.bool (ltFl x y)) ∧ w' = w := by
  go_enter Try.func124, Try.ntmps124
  go_wp2
  all_goals go_ret
  all_goals
    refine ⟨?_, rfl⟩
    unfold ltFl nanF
    simp_all [ordF]
end Go.Proofs.Ytglgmkikegbchaa
