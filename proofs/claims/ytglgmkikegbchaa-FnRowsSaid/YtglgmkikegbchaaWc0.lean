/- What is asked of the function that compares. -/
import Derived.Test.YtglgmkikegbchaaProg
import Derived.Test.YtglgmkikegbchaaKa
namespace Go.Proofs.Ytglgmkikegbchaa
open Go.RowKit Go.Sort

def ltC (cf : It → It → Int) : It → It → Bool := fun x y => decide (cf x y < 0)
/-- The method value of an order O compares by cf; it may draw and lay blocks of its own. -/
def CmpC (O : Value) (cf : It → It → Int) : Prop := ∀ (x y : It) (W : World), Calls Try.prog 36 #[O, vIt x, vIt y] W fun e w' => e = .returned (.int .i64 (cf x y)) ∧ ∃ q os, w' = grow (W.drewN q) os
theorem CmpC.out {O : Value} {cf : It → It → Int} (h : Aside (CmpC O cf)) (x y : It) (W : World) : Calls Try.prog 36 #[O, vIt x, vIt y] W fun e w' => e = .returned (.int .i64 (cf x y)) ∧ ∃ q os, w' = grow (W.drewN q) os := h x y W
end Go.Proofs.Ytglgmkikegbchaa
