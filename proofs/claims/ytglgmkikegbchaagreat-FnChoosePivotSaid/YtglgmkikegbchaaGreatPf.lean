/- choosePivot of a growing part, and of a falling one. -/
import Derived.Test.YtglgmkikegbchaaGreatPe
import Derived.Test.YtglgmkikegbchaaGreatPd
namespace Go.Proofs.YtglgmkikegbchaaGreat
open Go.Sort
variable {α : Type} [Inhabited α] {μ : α → Int}

theorem order2_up (d : Array α) {i j : Nat} (s : Nat) (h : μ d[i]! ≤ μ d[j]!) : order2 (ltBy μ) d i j s = (i, j, s) := by
  unfold order2 ltBy; rw [if_neg (by simp; omega)]
theorem order2_down (d : Array α) {i j : Nat} (s : Nat) (h : μ d[j]! < μ d[i]!) : order2 (ltBy μ) d i j s = (j, i, s + 1) := by
  unfold order2 ltBy; rw [if_pos (by simpa using h)]
theorem median_up (d : Array α) {i j k : Nat} (s : Nat) (h1 : μ d[i]! ≤ μ d[j]!) (h2 : μ d[j]! ≤ μ d[k]!) : median (ltBy μ) d i j k s = (j, s) := by
  unfold median; rw [order2_up d s h1]; dsimp only; rw [order2_up d s h2]; dsimp only; rw [order2_up d s h1]
theorem median_down (d : Array α) {i j k : Nat} (s : Nat) (h1 : μ d[j]! < μ d[i]!) (h2 : μ d[k]! < μ d[j]!) : median (ltBy μ) d i j k s = (j, s + 3) := by
  unfold median; rw [order2_down d s h1]; dsimp only; rw [order2_down d (s + 1) (show μ d[k]! < μ d[i]! by omega)]; dsimp only; rw [order2_down d (s + 1 + 1) h2]
theorem choosePivot_up (d : Array α) (a b : Nat) (h : ∀ i j, a ≤ i → i ≤ j → j < b → μ d[i]! ≤ μ d[j]!) : (choosePivot (ltBy μ) d a b).2 = .increasing := by
  have hr : (rawPivot (ltBy μ) d a b).2 = 0 := by
    unfold rawPivot
    split
    · split
      · have m : ∀ c s, a + 1 ≤ c → c + 1 < b → medianAdjacent (ltBy μ) d c s = (c, s) := fun c s h1 h2 => median_up d s (h _ _ (by omega) (by omega) (by omega)) (h _ _ (by omega) (by omega) (by omega))
        rw [m (a + (b - a) / 4 * 1) 0 (by omega) (by omega)]; dsimp only
        rw [m (a + (b - a) / 4 * 2) 0 (by omega) (by omega)]; dsimp only
        rw [m (a + (b - a) / 4 * 3) 0 (by omega) (by omega)]; dsimp only
        rw [median_up d 0 (h _ _ (by omega) (by omega) (by omega)) (h _ _ (by omega) (by omega) (by omega))]
      · rw [median_up d 0 (h _ _ (by omega) (by omega) (by omega)) (h _ _ (by omega) (by omega) (by omega))]
    · rfl
  rw [choosePivot_eq]
  show hintOf _ = _
  rw [hr]; rfl
theorem choosePivot_down (d : Array α) (a b : Nat) (h50 : 50 ≤ b - a) (h : ∀ i j, a ≤ i → i < j → j < b → μ d[j]! < μ d[i]!) : (choosePivot (ltBy μ) d a b).2 = .decreasing := by
  have hr : (rawPivot (ltBy μ) d a b).2 = 12 := by
    unfold rawPivot
    rw [if_pos (by omega), if_pos h50]
    have m : ∀ c s, a + 1 ≤ c → c + 1 < b → medianAdjacent (ltBy μ) d c s = (c, s + 3) := fun c s h1 h2 => median_down d s (h _ _ (by omega) (by omega) (by omega)) (h _ _ (by omega) (by omega) (by omega))
    rw [m (a + (b - a) / 4 * 1) 0 (by omega) (by omega)]; dsimp only
    rw [m (a + (b - a) / 4 * 2) (0 + 3) (by omega) (by omega)]; dsimp only
    rw [m (a + (b - a) / 4 * 3) (0 + 3 + 3) (by omega) (by omega)]; dsimp only
    rw [median_down d (0 + 3 + 3 + 3) (h _ _ (by omega) (by omega) (by omega)) (h _ _ (by omega) (by omega) (by omega))]
  rw [choosePivot_eq]
  show hintOf _ = _
  rw [hr]; rfl
end Go.Proofs.YtglgmkikegbchaaGreat
