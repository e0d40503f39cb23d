/- A heap below a root, as spec.heap looks for it: place by place, by a queue. -/
import Derived.Test.YtglgmkikegbchaaGreatPj
import Derived.Test.YtglgmkikegbchaaGreatGBS
namespace Go.Proofs.YtglgmkikegbchaaGreat
open Go.RowKit Go.Sort

/-- How many places of a tree of n places stand below one, itself counted. -/
def szB (n x : Nat) : Nat := if 2 * x + 1 < n then 1 + szB n (2 * x + 1) + (if 2 * x + 2 < n then szB n (2 * x + 2) else 0) else 1
termination_by n - x
theorem szB_two {n x : Nat} (h : 2 * x + 2 < n) : szB n x = 1 + szB n (2 * x + 1) + szB n (2 * x + 2) := by rw [szB, if_pos (by omega), if_pos h]
theorem szB_one {n x : Nat} (h : 2 * x + 1 < n) (h2 : ¬ 2 * x + 2 < n) : szB n x = 1 + szB n (2 * x + 1) := by rw [szB, if_pos h, if_neg h2]; rfl
theorem szB_none {n x : Nat} (h : ¬ 2 * x + 1 < n) : szB n x = 1 := by rw [szB, if_neg h]
theorem szB_pos (n x : Nat) : 1 ≤ szB n x := by rw [szB]; split <;> omega
theorem szB_le (n : Nat) : ∀ (N x : Nat), n - x ≤ N → x < n → szB n x * (x + 1) + (x + 1) ≤ 2 * n := by
  intro N
  induction N with
  | zero => intro x h1 h2; omega
  | succ N ih =>
    intro x h1 h2
    by_cases c1 : 2 * x + 1 < n
    · have i1 := ih (2 * x + 1) (by omega) c1
      have e1 : szB n (2 * x + 1) * (2 * x + 1 + 1) = 2 * (szB n (2 * x + 1) * (x + 1)) := by rw [show 2 * x + 1 + 1 = 2 * (x + 1) by omega, Nat.mul_left_comm]
      rw [e1] at i1
      by_cases c2 : 2 * x + 2 < n
      · have i2 := ih (2 * x + 2) (by omega) c2
        have e2 : szB n (2 * x + 2) * (2 * x + 2 + 1) = 2 * (szB n (2 * x + 2) * (x + 1)) + szB n (2 * x + 2) := by rw [show 2 * x + 2 + 1 = 2 * (x + 1) + 1 by omega, Nat.mul_add, Nat.mul_left_comm, Nat.mul_one]
        rw [e2] at i2
        rw [szB_two c2, Nat.add_mul, Nat.add_mul, Nat.one_mul]
        omega
      · rw [szB_one c1 c2, Nat.add_mul, Nat.one_mul]
        omega
    · rw [szB_none c1, Nat.one_mul]
      omega
theorem szB_bound (n x : Nat) : szB n x ≤ 2 * n + 1 := by
  by_cases h : x < n
  · have := szB_le n _ x (Nat.le_refl _) h
    have h2 : szB n x * 1 ≤ szB n x * (x + 1) := Nat.mul_le_mul_left _ (by omega)
    omega
  · rw [szB_none (by omega)]; omega

/-- Of all places that wait. -/
def szL (n : Nat) (q : List Nat) : Nat := q.foldr (fun x s => szB n x + s) 0
theorem szL_cons (n x : Nat) (q : List Nat) : szL n (x :: q) = szB n x + szL n q := rfl
theorem szL_append (n : Nat) : ∀ (q r : List Nat), szL n (q ++ r) = szL n q + szL n r
  | [], r => by simp [szL]
  | x :: q, r => by rw [List.cons_append, szL_cons, szL_cons, szL_append n q r]; omega
theorem szL_len (n : Nat) : ∀ (q : List Nat), q.length ≤ szL n q
  | [] => Nat.le_refl _
  | x :: q => by rw [szL_cons, List.length_cons]; have := szL_len n q; have := szB_pos n x; omega

/-- A heap, as a truth value. -/
noncomputable def heapB (lt : It → It → Bool) (d : Array It) (n first r : Nat) : Bool := @decide (HeapAt lt (fun i => d[first + i]!) n r) (Classical.propDecidable _)
theorem heapB_true {lt : It → It → Bool} {d : Array It} {n first r : Nat} : heapB lt d n first r = true ↔ HeapAt lt (fun i => d[first + i]!) n r := by unfold heapB; exact @decide_eq_true_iff _ (Classical.propDecidable _)

theorem heap_far {lt : It → It → Bool} {g : Nat → It} {n r : Nat} (h : n ≤ r) : HeapAt lt g n r := fun i hi hb => absurd (below_ge i i r (Nat.le_refl _) hb) (by omega)

/-- What is yet to be seen of the two below a place i, from the k-th on. -/
def Kids (lt : It → It → Bool) (g : Nat → It) (n i k : Nat) : Prop := ∀ j, k ≤ j → j < 2 → i < n → 2 * i + 1 + j < n → lt (g i) (g (2 * i + 1 + j)) = false ∧ HeapAt lt g n (2 * i + 1 + j)
theorem kids_start {lt : It → It → Bool} {g : Nat → It} {n i : Nat} : HeapAt lt g n i ↔ Kids lt g n i 0 := by
  rw [heap_split]
  constructor
  · intro ⟨h1, h2, h3⟩ j _ hj hi hn
    rcases (show j = 0 ∨ j = 1 by omega) with rfl | rfl
    · exact ⟨h1 hi _ (Or.inl rfl) hn, h2⟩
    · exact ⟨h1 hi _ (Or.inr rfl) hn, h3⟩
  · intro h
    have far : ∀ c, (c = 2 * i + 1 ∨ c = 2 * i + 2) → HeapAt lt g n c := fun c hc => by
      by_cases hn : c < n
      · rcases hc with rfl | rfl
        · exact (h 0 (Nat.le_refl _) (by omega) (by omega) hn).2
        · exact (h 1 (by omega) (by omega) (by omega) hn).2
      · exact heap_far (by omega)
    refine ⟨fun hi c hc hn => ?_, far _ (Or.inl rfl), far _ (Or.inr rfl)⟩
    rcases hc with rfl | rfl
    · exact (h 0 (Nat.le_refl _) (by omega) hi hn).1
    · exact (h 1 (by omega) (by omega) hi hn).1
theorem kids_end {lt : It → It → Bool} {g : Nat → It} {n i : Nat} : Kids lt g n i 2 := fun j h1 h2 => absurd h1 (by omega)
theorem kids_skip {lt : It → It → Bool} {g : Nat → It} {n i k : Nat} (h : ¬ (i < n ∧ 2 * i + 1 + k < n)) : Kids lt g n i k ↔ Kids lt g n i (k + 1) := by
  constructor
  · intro H j h1; exact H j (by omega)
  · intro H j h1 h2 h3 h4
    by_cases e : j = k
    · subst e; exact absurd ⟨h3, h4⟩ h
    · exact H j (by omega) h2 h3 h4
theorem kids_go {lt : It → It → Bool} {g : Nat → It} {n i k : Nat} (hk : k < 2) (hi : i < n) (hc : 2 * i + 1 + k < n) (hl : lt (g i) (g (2 * i + 1 + k)) = false) : Kids lt g n i k ↔ (HeapAt lt g n (2 * i + 1 + k) ∧ Kids lt g n i (k + 1)) := by
  constructor
  · intro H; exact ⟨(H k (Nat.le_refl _) hk hi hc).2, fun j h1 => H j (by omega)⟩
  · intro ⟨H1, H2⟩ j h1 h2 h3 h4
    by_cases e : j = k
    · subst e; exact ⟨hl, H1⟩
    · exact H2 j (by omega) h2 h3 h4
/-- The weight of the kids from the k-th on. -/
def szK (n i k : Nat) : Nat := (if k ≤ 0 ∧ i < n ∧ 2 * i + 1 < n then szB n (2 * i + 1) else 0) + (if k ≤ 1 ∧ i < n ∧ 2 * i + 2 < n then szB n (2 * i + 2) else 0)
theorem szK_start (n i : Nat) : szK n i 0 + 1 = szB n i := by
  unfold szK
  by_cases h2 : 2 * i + 2 < n
  · rw [szB_two h2, if_pos ⟨by omega, by omega, by omega⟩, if_pos ⟨by omega, by omega, h2⟩]; omega
  · by_cases h1 : 2 * i + 1 < n
    · rw [szB_one h1 h2, if_pos ⟨by omega, by omega, h1⟩, if_neg (by omega)]; omega
    · rw [szB_none h1, if_neg (by omega), if_neg (by omega)]
theorem szK_skip {n i k : Nat} : szK n i (k + 1) ≤ szK n i k := by
  unfold szK
  have e1 : ¬ (k + 1 ≤ 0 ∧ i < n ∧ 2 * i + 1 < n) := by omega
  rw [if_neg e1]
  by_cases h : k + 1 ≤ 1 ∧ i < n ∧ 2 * i + 2 < n
  · rw [if_pos h, if_pos (show k ≤ 1 ∧ i < n ∧ 2 * i + 2 < n by omega)]; omega
  · rw [if_neg h]; omega
theorem szK_go {n i k : Nat} (hk : k < 2) (hi : i < n) (hc : 2 * i + 1 + k < n) : szB n (2 * i + 1 + k) + szK n i (k + 1) = szK n i k := by
  unfold szK
  rcases (show k = 0 ∨ k = 1 by omega) with rfl | rfl
  · have e1 : ¬ (0 + 1 ≤ 0 ∧ i < n ∧ 2 * i + 1 < n) := by omega
    rw [if_neg e1, if_pos (show 0 ≤ 0 ∧ i < n ∧ 2 * i + 1 < n by omega)]
    by_cases h : i < n ∧ 2 * i + 2 < n
    · rw [if_pos (show 0 + 1 ≤ 1 ∧ i < n ∧ 2 * i + 2 < n by omega), if_pos (show 0 ≤ 1 ∧ i < n ∧ 2 * i + 2 < n by omega)]; simp
    · rw [if_neg (by omega), if_neg (by omega)]
  · rw [if_neg (by omega), if_neg (by omega), if_neg (by omega), if_pos (show 1 ≤ 1 ∧ i < n ∧ 2 * i + 2 < n by omega)]
    show szB n (2 * i + 2) + (0 + 0) = 0 + szB n (2 * i + 2)
    omega
end Go.Proofs.YtglgmkikegbchaaGreat
