/- symMerge of more than one element on both sides, laid open. No program in this text. -/
import Derived.Test.YtglgmkikegbchaaPb
namespace Go.Proofs.Ytglgmkikegbchaa
open Go.Sort

theorem symMerge_open {α : Type} [Inhabited α] (lt : α → α → Bool) (d : Array α) (a m b : Nat) (h1 : ¬ m - a = 1) (h2 : ¬ b - m = 1) (D st e : Nat) (d1 d2 : Array α) (hD : D = (a + b) / 2) (hm : a < D ∧ D < b)
    (hst : st = bsearch (fun c => !lt d[D + m - 1 - c]! d[c]!) (if D < m then D + m - b else a) (if D < m then D else m)) (he : e = D + m - st)
    (hd1 : d1 = if st < m ∧ m < e then rotate d st m e else d) (hd2 : d2 = if a < st ∧ st < D then symMerge lt d1 a st D else d1) :
    symMerge lt d a m b = if D < e ∧ e < b then symMerge lt d2 D e b else d2 := by
  subst hD
  rw [symMerge, if_neg h1, if_neg h2]
  simp only [gt_iff_lt, hm.1, hm.2, and_true]
  rw [← hst, ← he, ← hd1]
  simp only [dite_eq_ite]
  rw [← hd2]
end Go.Proofs.Ytglgmkikegbchaa
