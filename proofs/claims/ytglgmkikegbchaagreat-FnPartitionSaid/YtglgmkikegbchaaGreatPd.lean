/- The functions that choose, in plain Lean: the places that they tell lie where those that they were given lie. -/
import Derived.Sort.LotD4
import Derived.Test.YtglgmkikegbchaaGreatPb
namespace Go.Proofs.YtglgmkikegbchaaGreat
open Go.Sort
variable {α : Type} [Inhabited α] (lt : α → α → Bool)

theorem order2_in (d : Array α) {a b n : Nat} (s : Nat) (ha : a < n) (hb : b < n) : (order2 lt d a b s).1 < n ∧ (order2 lt d a b s).2.1 < n := by
  unfold order2
  split
  · exact ⟨hb, ha⟩
  · exact ⟨ha, hb⟩
theorem median_in (d : Array α) {a b c n : Nat} (s : Nat) (ha : a < n) (hb : b < n) (hc : c < n) : (median lt d a b c s).1 < n := by
  unfold median
  have h1 := order2_in lt d s ha hb
  have h2 := order2_in lt d (order2 lt d a b s).2.2 h1.2 hc
  exact (order2_in lt d _ h1.1 h2.1).2
theorem medianAdjacent_in (d : Array α) {a n : Nat} (s : Nat) (ha : a + 1 < n) : (medianAdjacent lt d a s).1 < n := median_in lt d s (by omega) (by omega) ha

/-- The rest of breakPatterns: so many rounds from the t-th on. -/
def bpRest (a L M i0 : Nat) : Nat → Nat → UInt64 × Array α → Array α
  | 0, _, st => st.2
  | k + 1, t, st => bpRest a L M i0 k (t + 1) (breakStep a L M st (i0 + t))
theorem bpRest_step (a L M i0 t : Nat) (r : UInt64) (d : Array α) (o : Nat) (ht : t < 3) (ho : (if (xorNext r).toNat &&& (M - 1) ≥ L then ((xorNext r).toNat &&& (M - 1)) - L else (xorNext r).toNat &&& (M - 1)) = o) :
    bpRest a L M i0 (3 - t) t (r, d) = bpRest a L M i0 (3 - (t + 1)) (t + 1) (xorNext r, swp d (i0 + t) (a + o)) := by
  rw [show 3 - t = (3 - (t + 1)) + 1 by omega, bpRest, breakStep]
  simp only []
  rw [ho]
theorem breakPatterns_rest (d : Array α) (a b : Nat) (h : 8 ≤ b - a) : breakPatterns d a b = bpRest a (b - a) (1 <<< bitsLen (b - a)) (a + (b - a) / 4 * 2 - 1) 3 0 (UInt64.ofNat (b - a), d) := by
  unfold breakPatterns
  simp only []
  rw [if_pos h]
  rfl
theorem breakPatterns_few (d : Array α) (a b : Nat) (h : ¬ 8 ≤ b - a) : breakPatterns d a b = d := by
  unfold breakPatterns
  simp only []
  rw [if_neg h]

/-- What stands where, when a part has been turned round. -/
theorem reverseLoop_get : ∀ (N i j : Nat) (d : Array α), j - i ≤ N → j < d.size → ∀ k, (reverseLoop i j d)[k]! = if i ≤ k ∧ k ≤ j then d[i + j - k]! else d[k]! := by
  intro N
  induction N with
  | zero =>
    intro i j d h hj k
    rw [reverseLoop, if_neg (by omega)]
    split
    · congr 1; omega
    · rfl
  | succ N ih =>
    intro i j d h hj k
    rw [reverseLoop]
    split
    · rename_i hij
      rw [ih (i + 1) (j - 1) (swp d i j) (by omega) (by rw [size_swp]; omega) k, swp_at d (by omega) hj, swp_at d (by omega) hj]
      by_cases h1 : i + 1 ≤ k ∧ k ≤ j - 1
      · rw [if_pos h1, if_neg (by omega), if_neg (by omega), if_pos (by omega)]; congr 1; omega
      · rw [if_neg h1]
        by_cases h2 : k = j
        · subst h2; rw [if_pos rfl, if_pos (by omega)]; congr 1; omega
        · rw [if_neg h2]
          by_cases h3 : k = i
          · subst h3; rw [if_pos rfl, if_pos (by omega)]; congr 1; omega
          · rw [if_neg h3, if_neg (by omega)]
    · split
      · congr 1; omega
      · rfl
theorem reverseRange_get (d : Array α) (a b i : Nat) (hb : b ≤ d.size) (h : i < b - a) : (reverseRange d a b)[a + i]! = d[b - 1 - i]! := by
  rw [reverseRange, reverseLoop_get _ a (b - 1) d (Nat.le_refl _) (by omega), if_pos (by omega)]
  congr 1; omega
end Go.Proofs.YtglgmkikegbchaaGreat
