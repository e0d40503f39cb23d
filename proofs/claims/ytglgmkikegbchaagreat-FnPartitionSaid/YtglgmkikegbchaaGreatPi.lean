/- What the partitions and a few steps of insertion tell. No program in this text. -/
import Derived.Test.YtglgmkikegbchaaGreatPa
import Derived.Sort.AssemblyPlain
import Derived.Sort.WalkC4
namespace Go.Proofs.YtglgmkikegbchaaGreat
open Go.Sort Go.Proofs
variable {α : Type} [Inhabited α] (lt : α → α → Bool)

theorem partition_at (d : Array α) (a b pivot : Nat) (hap : a ≤ pivot) (hpb : pivot < b) (hb : b ≤ d.size) : (partition lt d a b pivot).2.2[(partition lt d a b pivot).1]! = d[pivot]! := by
  rw [partition_fst, partition_arr]
  have hb0 : b ≤ (swp d a pivot).size := by rw [size_swp]; exact hb
  obtain ⟨r1, r2, r3, _, _⟩ := partLoop_spec lt a b _ (a + 1) (b - 1) (swp d a pivot) (Nat.le_refl _) (Nat.lt_succ_self a) (by omega) (by omega) hb0 (fun t h1 h2 => by omega) (fun t h1 h2 => by omega)
  generalize partLoop lt a (a + 1) (b - 1) (swp d a pivot) = res at r1 r2 r3 ⊢
  obtain ⟨r, d'⟩ := res
  simp only at r1 r2 r3 ⊢
  have hs : d'.size = d.size := by rw [r3.1, size_swp]
  have ea : d'[a]! = (swp d a pivot)[a]! := r3.2.1 a (Or.inl (Nat.lt_succ_self a))
  have ep : (swp d a pivot)[a]! = d[pivot]! := by
    by_cases e : a = pivot
    · rw [e, swp_right d pivot pivot (by omega)]
    · rw [swp_left d a pivot (by omega) e]
  by_cases e : r = a
  · rw [e, swp_right d' a a (by omega)]; exact ea.trans ep
  · rw [swp_left d' r a (by omega) e]; exact ea.trans ep

theorem partition_flag (d : Array α) (a b pivot : Nat) (_hap : a ≤ pivot) (hpb : pivot < b) :
    (partition lt d a b pivot).2.1 = true ↔ ∀ i, a < i → i < b → decide (i ≤ (partition lt d a b pivot).1) = lt (swp d a pivot)[i]! (swp d a pivot)[a]! := by
  obtain ⟨x, hx⟩ : ∃ x, x = swp d a pivot := ⟨_, rfl⟩
  obtain ⟨i1, hi1⟩ : ∃ i1, i1 = scanUp (fun v => lt v x[a]!) x (b - 1) (a + 1) := ⟨_, rfl⟩
  obtain ⟨j1, hj1⟩ : ∃ j1, j1 = scanDown (fun v => !lt v x[a]!) x i1 (b - 1) := ⟨_, rfl⟩
  obtain ⟨u1, u2, u3, u4⟩ := scanUp_spec (fun v => lt v x[a]!) x (b - 1) _ (a + 1) rfl
  obtain ⟨v1, v2, v3, v4⟩ := scanDown_spec (fun v => !lt v x[a]!) x i1 (b - 1)
  rw [← hi1] at u1 u2 u3 u4
  rw [← hj1] at v1 v2 v3 v4
  rw [← hx]
  by_cases h : j1 < i1
  · rw [part_first_break lt d a b pivot rfl rfl hx hi1 hj1 h]
    refine ⟨fun _ i h1 h2 => ?_, fun _ => rfl⟩
    show decide (i ≤ j1) = _
    by_cases hi : i ≤ j1
    · rw [decide_eq_true hi]; exact (u3 i (by omega) (by omega)).symm
    · rw [decide_eq_false hi]; have := v3 i (by omega) (by omega); simpa using this
  · rw [part_first_go lt d a b pivot rfl rfl hx hi1 hj1 (by omega)]
    refine ⟨fun h' => (Bool.false_ne_true h').elim, fun h' => ?_⟩
    have e1 := h' i1 (by omega) (by omega)
    have e2 := h' j1 (by omega) (by omega)
    rw [show lt x[i1]! x[a]! = false from u4 (by omega)] at e1
    have e3 : lt x[j1]! x[a]! = true := by have := v4 (by omega) (by omega); simpa using this
    rw [e3] at e2
    have := of_decide_eq_true e2
    have := of_decide_eq_false e1
    omega

theorem scanSorted_all (d : Array α) (b : Nat) : ∀ (n i : Nat), b - i ≤ n → i ≤ b → (∀ k, i ≤ k → k < b → lt d[k]! d[k - 1]! = false) → scanSorted lt d b i = b := by
  intro n
  induction n with
  | zero =>
    intro i h hi _
    obtain rfl : i = b := by omega
    rw [scanSorted]
    simp
  | succ n ih =>
    intro i h hi hs
    by_cases hlt : i < b
    · rw [scanSorted, if_pos (by rw [hs i (Nat.le_refl _) hlt]; simpa using hlt)]
      exact ih (i + 1) (by omega) (by omega) fun k h1 h2 => hs k (by omega) h2
    · obtain rfl : i = b := by omega
      rw [scanSorted]; simp

theorem partial_sorted (d : Array α) (a b : Nat) (hab : a < b) (hs : ∀ k, a + 1 ≤ k → k < b → lt d[k]! d[k - 1]! = false) : partialInsertionSort lt d a b = (d, true) := by
  unfold partialInsertionSort
  rw [partialIns_succ, scanSorted_all lt d b _ (a + 1) (Nat.le_refl _) (by omega) hs, if_pos rfl]
end Go.Proofs.YtglgmkikegbchaaGreat
