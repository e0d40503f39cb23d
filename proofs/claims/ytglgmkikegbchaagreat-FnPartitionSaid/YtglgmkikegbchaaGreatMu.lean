/- Orders that are ones compare by a measure; the median of three by a measure. -/
import Derived.Test.YtglgmkikegbchaaGreatOrd
import Derived.Test.YtglgmkikegbchaaGreatPe
namespace Go.Proofs.YtglgmkikegbchaaGreat
open Go.Sort Go.RowKit

/-- The measure by which an order compares. -/
def muO (o : Ordr) (x : It) : Int := if o.kind = 1 then -x.1 else if o.kind = 2 then x.1 / 2 ^ o.shift.toNat else x.1
theorem sg_neg (a b : Int) : (sg a b < 0) ↔ a < b := by
  unfold sg
  by_cases h : a < b
  · simp [h]
  · by_cases h2 : b < a <;> simp [h, h2]
theorem ltC_by (o : Ordr) (h3 : o.kind ≠ 3) : ltC (cfO o) = ltBy (muO o) := by
  funext x y
  unfold ltC ltBy cfO muO
  refine decide_eq_decide.2 ?_
  by_cases k1 : o.kind = 1
  · simp only [k1, if_true, sg_neg]; omega
  · by_cases k2 : o.kind = 2
    · simp only [k2, if_true, sg_neg, show ¬ (2 : Int) = 1 by decide, if_false]
    · simp only [k1, k2, h3, if_false, sg_neg]

/-- One of three places. -/
def at3 (x y z : Nat) (i : Nat) : Nat := if i = 0 then x else if i = 1 then y else z
theorem order2_by {μ : It → Int} (d : Array It) (a b s : Nat) : (μ d[b]! < μ d[a]! ∧ order2 (ltBy μ) d a b s = (b, a, s + 1)) ∨ (μ d[a]! ≤ μ d[b]! ∧ order2 (ltBy μ) d a b s = (a, b, s)) := by
  unfold order2 ltBy
  by_cases h : μ d[b]! < μ d[a]!
  · exact Or.inl ⟨h, if_pos (by simpa using h)⟩
  · exact Or.inr ⟨by omega, if_neg (by simpa using h)⟩
theorem median_by {μ : It → Int} (d : Array It) (x y z : Nat) : ∃ m s, median (ltBy μ) d x y z 0 = (m, s) ∧ s ≤ 3 ∧
    ((m = x ∧ ((μ d[y]! ≤ μ d[x]! ∧ μ d[x]! ≤ μ d[z]!) ∨ (μ d[z]! ≤ μ d[x]! ∧ μ d[x]! ≤ μ d[y]!))) ∨ (m = y ∧ ((μ d[x]! ≤ μ d[y]! ∧ μ d[y]! ≤ μ d[z]!) ∨ (μ d[z]! ≤ μ d[y]! ∧ μ d[y]! ≤ μ d[x]!))) ∨
     (m = z ∧ ((μ d[x]! ≤ μ d[z]! ∧ μ d[z]! ≤ μ d[y]!) ∨ (μ d[y]! ≤ μ d[z]! ∧ μ d[z]! ≤ μ d[x]!)))) := by
  unfold median
  rcases order2_by (μ := μ) d x y 0 with ⟨h1, e1⟩ | ⟨h1, e1⟩ <;> rw [e1] <;> dsimp only
  · rcases order2_by (μ := μ) d x z (0 + 1) with ⟨h2, e2⟩ | ⟨h2, e2⟩ <;> rw [e2] <;> dsimp only
    · rcases order2_by (μ := μ) d y z (0 + 1 + 1) with ⟨h3, e3⟩ | ⟨h3, e3⟩ <;> rw [e3] <;> dsimp only
      · exact ⟨_, _, rfl, by omega, Or.inr (Or.inl ⟨rfl, by omega⟩)⟩
      · exact ⟨_, _, rfl, by omega, Or.inr (Or.inr ⟨rfl, by omega⟩)⟩
    · rcases order2_by (μ := μ) d y x (0 + 1) with ⟨h3, e3⟩ | ⟨h3, e3⟩ <;> rw [e3] <;> dsimp only
      · exact ⟨_, _, rfl, by omega, Or.inr (Or.inl ⟨rfl, by omega⟩)⟩
      · exact ⟨_, _, rfl, by omega, Or.inl ⟨rfl, by omega⟩⟩
  · rcases order2_by (μ := μ) d y z 0 with ⟨h2, e2⟩ | ⟨h2, e2⟩ <;> rw [e2] <;> dsimp only
    · rcases order2_by (μ := μ) d x z (0 + 1) with ⟨h3, e3⟩ | ⟨h3, e3⟩ <;> rw [e3] <;> dsimp only
      · exact ⟨_, _, rfl, by omega, Or.inl ⟨rfl, by omega⟩⟩
      · exact ⟨_, _, rfl, by omega, Or.inr (Or.inr ⟨rfl, by omega⟩)⟩
    · rcases order2_by (μ := μ) d x y 0 with ⟨h3, e3⟩ | ⟨h3, e3⟩ <;> rw [e3] <;> dsimp only
      · exact ⟨_, _, rfl, by omega, Or.inl ⟨rfl, by omega⟩⟩
      · exact ⟨_, _, rfl, by omega, Or.inr (Or.inl ⟨rfl, by omega⟩)⟩
end Go.Proofs.YtglgmkikegbchaaGreat
