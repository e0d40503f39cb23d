/- Heaps below a root; an element sinks. No program in this text. -/
import Derived.Test.YtglgmkikegbchaaGreatPb
namespace Go.Proofs.YtglgmkikegbchaaGreat
open Go.Sort
variable {α : Type} [Inhabited α]

/-- Whether a place is a root, or below it. -/
def belowB (i r : Nat) : Bool := if _h : r < i then belowB ((i - 1) / 2) r else decide (i = r)
termination_by i
decreasing_by omega

theorem below_gt {i r : Nat} (h : r < i) : belowB i r = belowB ((i - 1) / 2) r := by rw [belowB, dif_pos h]
theorem below_le {i r : Nat} (h : ¬ r < i) : belowB i r = decide (i = r) := by rw [belowB, dif_neg h]
theorem below_ge : ∀ (N i r : Nat), i ≤ N → belowB i r = true → r ≤ i := by
  intro N
  induction N with
  | zero =>
    intro i r h hb
    obtain rfl : i = 0 := by omega
    rw [below_le (by omega)] at hb
    have := of_decide_eq_true hb
    omega
  | succ N ih =>
    intro i r h hb
    by_cases hlt : r < i
    · omega
    · rw [below_le hlt] at hb; have := of_decide_eq_true hb; omega
theorem below_self (r : Nat) : belowB r r = true := by rw [below_le (by omega)]; exact decide_eq_true rfl

theorem below_split : ∀ (N i r : Nat), i ≤ N → (belowB i r = true ↔ (i = r ∨ belowB i (2 * r + 1) = true ∨ belowB i (2 * r + 2) = true)) := by
  intro N
  induction N with
  | zero =>
    intro i r h
    obtain rfl : i = 0 := by omega
    rw [below_le (by omega), below_le (by omega), below_le (by omega)]
    simp only [decide_eq_true_eq]
    omega
  | succ N ih =>
    intro i r h
    by_cases hlt : r < i
    · rw [below_gt hlt, ih ((i - 1) / 2) r (by omega)]
      by_cases h1 : 2 * r + 1 < i
      · rw [below_gt h1]
        by_cases h2 : 2 * r + 2 < i
        · rw [below_gt h2]
          have : ¬ (i - 1) / 2 = r := by omega
          have : ¬ i = r := by omega
          simp [*]
        · obtain rfl : i = 2 * r + 2 := by omega
          rw [below_le h2]
          simp only [decide_true, or_true, iff_true]
          omega
      · by_cases he : i = 2 * r + 1
        · subst he
          rw [below_le (i := 2 * r + 1) (r := 2 * r + 1) (by omega)]
          simp only [decide_true, true_or, or_true, iff_true]
          omega
        · rw [below_le (i := (i - 1) / 2) (r := 2 * r + 1) (by omega), below_le (i := (i - 1) / 2) (r := 2 * r + 2) (by omega), below_le (i := i) (r := 2 * r + 1) (by omega), below_le (i := i) (r := 2 * r + 2) (by omega)]
          simp only [decide_eq_true_eq]
          omega
    · rw [below_le hlt, below_le (by omega), below_le (by omega)]
      simp only [decide_eq_true_eq]
      omega

theorem below_apart : ∀ (N i r s : Nat), i ≤ N → r < s → s ≤ 2 * r → belowB i r = true → belowB i s = false := by
  intro N
  induction N with
  | zero =>
    intro i r s h h1 h2 hb
    obtain rfl : i = 0 := by omega
    rw [below_le (by omega)]; exact decide_eq_false (by omega)
  | succ N ih =>
    intro i r s h h1 h2 hb
    by_cases hs : s < i
    · rw [below_gt hs]
      rw [below_gt (by omega)] at hb
      exact ih _ r s (by omega) h1 h2 hb
    · rw [below_le hs]
      refine decide_eq_false fun e => ?_
      subst e
      rw [below_gt h1] at hb
      have := below_ge _ _ _ (Nat.le_refl _) hb
      omega

variable (lt : α → α → Bool)
/-- None of n elements below a root stands ahead of those below it. -/
def HeapAt (g : Nat → α) (n r : Nat) : Prop := ∀ i, i < n → belowB i r = true → ∀ c, c = 2 * i + 1 ∨ c = 2 * i + 2 → c < n → lt (g i) (g c) = false

variable {lt}
omit [Inhabited α] in
theorem heap_split {g : Nat → α} {n r : Nat} : HeapAt lt g n r ↔ (r < n → ∀ c, c = 2 * r + 1 ∨ c = 2 * r + 2 → c < n → lt (g r) (g c) = false) ∧ HeapAt lt g n (2 * r + 1) ∧ HeapAt lt g n (2 * r + 2) := by
  constructor
  · intro h
    exact ⟨fun hr => h r hr (below_self r), fun i hi hb => h i hi ((below_split i i r (Nat.le_refl _)).2 (Or.inr (Or.inl hb))), fun i hi hb => h i hi ((below_split i i r (Nat.le_refl _)).2 (Or.inr (Or.inr hb)))⟩
  · rintro ⟨h1, h2, h3⟩ i hi hb
    rcases (below_split i i r (Nat.le_refl _)).1 hb with rfl | hb | hb
    · exact h1 hi
    · exact h2 i hi hb
    · exact h3 i hi hb

omit [Inhabited α] in
theorem heap_top (S : SWO lt) {g : Nat → α} {n r : Nat} (h : HeapAt lt g n r) : ∀ (N i : Nat), i ≤ N → i < n → belowB i r = true → lt (g r) (g i) = false := by
  intro N
  induction N with
  | zero =>
    intro i hi hn hb
    have := below_ge _ _ _ (Nat.le_refl _) hb
    obtain rfl : i = 0 := by omega
    obtain rfl : r = 0 := by omega
    exact S.irrefl _
  | succ N ih =>
    intro i hi hn hb
    by_cases hlt : r < i
    · rw [below_gt hlt] at hb
      exact S.ntrans _ _ _ (ih ((i - 1) / 2) (by omega) (by omega) hb) (h ((i - 1) / 2) (by omega) hb i (by omega) hn)
    · rw [below_le hlt] at hb
      obtain rfl := of_decide_eq_true hb
      exact S.irrefl _

omit [Inhabited α] in
theorem heap_congr {g g' : Nat → α} {n r : Nat} (h : HeapAt lt g n r) (he : ∀ i, i < n → belowB i r = true → g' i = g i) : HeapAt lt g' n r := fun i hi hb c hc hcn => by
  have hbc : belowB c r = true := by
    have := below_ge _ _ _ (Nat.le_refl _) hb
    rw [below_gt (by omega), show (c - 1) / 2 = i by omega]; exact hb
  rw [he i hi hb, he c hcn hbc]
  exact h i hi hb c hc hcn

/-- What sinking leaves. -/
structure Sunk (lt : α → α → Bool) (g g' : Nat → α) (n r : Nat) : Prop where
  heap : HeapAt lt g' n r
  same : ∀ i, i < n → belowB i r = false → g' i = g i
  bound : ∀ v, (∀ i, i < n → belowB i r = true → lt v (g i) = false) → ∀ i, i < n → belowB i r = true → lt v (g' i) = false

theorem sift_sunk (S : SWO lt) (n first : Nat) : ∀ (N r : Nat) (d : Array α), n - r ≤ N → first + n ≤ d.size → HeapAt lt (fun i => d[first + i]!) n (2 * r + 1) → HeapAt lt (fun i => d[first + i]!) n (2 * r + 2) →
    Sunk lt (fun i => d[first + i]!) (fun i => (siftDown lt n first r d)[first + i]!) n r := by
  intro N
  induction N with
  | zero =>
    intro r d hN hsz h1 h2
    rw [sift_end _ _ _ _ (by omega)]
    exact ⟨heap_split.2 ⟨fun hr => by omega, h1, h2⟩, fun _ _ _ => rfl, fun v hv => hv⟩
  | succ N ih =>
    intro r d hN hsz h1 h2
    have asym : ∀ x y, lt x y = true → lt y x = false := fun x y h => by
      cases hh : lt y x with
      | false => rfl
      | true => have := S.trans _ _ _ h hh; rw [S.irrefl] at this; cases this
    by_cases hend : n ≤ 2 * r + 1
    · rw [sift_end _ _ _ _ hend]
      exact ⟨heap_split.2 ⟨fun hr c hc hcn => by omega, h1, h2⟩, fun _ _ _ => rfl, fun v hv => hv⟩
    -- the child that is chosen, the other one
    have key : ∀ c o : Nat, (c = 2 * r + 1 ∧ o = 2 * r + 2 ∨ c = 2 * r + 2 ∧ o = 2 * r + 1) → c < n → (o < n → lt d[first + c]! d[first + o]! = false) →
        (lt d[first + r]! d[first + c]! = false → siftDown lt n first r d = d) → (lt d[first + r]! d[first + c]! = true → siftDown lt n first r d = siftDown lt n first c (swp d (first + r) (first + c))) →
        (lt d[first + r]! d[first + c]! = false → o < n → lt d[first + r]! d[first + o]! = false) →
        Sunk lt (fun i => d[first + i]!) (fun i => (siftDown lt n first r d)[first + i]!) n r := by
      intro c o hco hcn hco2 hstop hgo hro
      have Hc : HeapAt lt (fun i => d[first + i]!) n c := by rcases hco with ⟨rfl, rfl⟩ | ⟨rfl, rfl⟩ <;> assumption
      have Ho : HeapAt lt (fun i => d[first + i]!) n o := by rcases hco with ⟨rfl, rfl⟩ | ⟨rfl, rfl⟩ <;> assumption
      have apart : ∀ i, belowB i c = true → belowB i o = false := fun i hb => by
        rcases hco with ⟨rfl, rfl⟩ | ⟨rfl, rfl⟩
        · exact below_apart i i _ _ (Nat.le_refl _) (by omega) (by omega) hb
        · cases hbo : belowB i (2 * r + 1) with
          | false => rfl
          | true => rw [below_apart i i _ (2 * r + 2) (Nat.le_refl _) (by omega) (by omega) hbo] at hb; cases hb
      have split : ∀ i, belowB i r = true ↔ (i = r ∨ belowB i c = true ∨ belowB i o = true) := fun i => by
        rw [below_split i i r (Nat.le_refl _)]
        rcases hco with ⟨rfl, rfl⟩ | ⟨rfl, rfl⟩
        · exact Iff.rfl
        · refine ⟨fun h => ?_, fun h => ?_⟩
          · rcases h with h | h | h
            · exact Or.inl h
            · exact Or.inr (Or.inr h)
            · exact Or.inr (Or.inl h)
          · rcases h with h | h | h
            · exact Or.inl h
            · exact Or.inr (Or.inr h)
            · exact Or.inr (Or.inl h)
      have hcr : r < c := by omega
      have hor : r < o := by omega
      cases hl : lt d[first + r]! d[first + c]! with
      | false =>
        rw [hstop hl]
        refine ⟨heap_split.2 ⟨fun hr c' hc' hcn' => ?_, h1, h2⟩, fun _ _ _ => rfl, fun v hv => hv⟩
        by_cases e : c' = c
        · subst e; exact hl
        · obtain rfl : c' = o := by omega
          exact hro hl hcn'
      | true =>
        rw [hgo hl]
        have he : ∀ i, i < n → i ≠ r → i ≠ c → (swp d (first + r) (first + c))[first + i]! = d[first + i]! := fun i hi e1 e2 => swp_other d (first + r) (first + c) (first + i) (by omega) (by omega)
        have her : (swp d (first + r) (first + c))[first + r]! = d[first + c]! := swp_left d (first + r) (first + c) (by omega) (by omega)
        have hec : (swp d (first + r) (first + c))[first + c]! = d[first + r]! := swp_right d (first + r) (first + c) (by omega)
        have hs2 : first + n ≤ (swp d (first + r) (first + c)).size := by rw [size_swp]; exact hsz
        generalize swp d (first + r) (first + c) = e at he her hec hs2 ⊢
        obtain ⟨_, H3, H4⟩ := heap_split.1 Hc
        have far : ∀ i s, c < s → belowB i s = true → i ≠ r ∧ i ≠ c := fun i s hs hb => by have := below_ge _ _ _ (Nat.le_refl _) hb; omega
        have I := ih c e (by omega) hs2 (heap_congr H3 fun i hi hb => he i hi (far i _ (by omega) hb).1 (far i _ (by omega) hb).2) (heap_congr H4 fun i hi hb => he i hi (far i _ (by omega) hb).1 (far i _ (by omega) hb).2)
        have hcb : belowB r c = false := by rw [below_le (by omega)]; exact decide_eq_false (by omega)
        have hrv : (siftDown lt n first c e)[first + r]! = d[first + c]! := (I.same r (by omega) hcb).trans her
        have hoth : ∀ i, i < n → belowB i c = false → i ≠ r → (siftDown lt n first c e)[first + i]! = d[first + i]! := fun i hi hb hir => (I.same i hi hb).trans (he i hi hir fun e' => by rw [e', below_self] at hb; cases hb)
        have hnoc : ∀ i, belowB i o = true → belowB i c = false := fun i hb => by
          cases hbc : belowB i c with
          | false => rfl
          | true => rw [apart i hbc] at hb; cases hb
        have hob : ∀ i, i < n → belowB i o = true → (siftDown lt n first c e)[first + i]! = d[first + i]! := fun i hi hb => hoth i hi (hnoc i hb) (by have := below_ge _ _ _ (Nat.le_refl _) hb; omega)
        have hcbound : ∀ i, i < n → belowB i c = true → lt d[first + c]! (siftDown lt n first c e)[first + i]! = false := I.bound d[first + c]! fun i hi hb => by
          show lt d[first + c]! e[first + i]! = false
          by_cases e' : i = c
          · rw [e', hec]; exact asym _ _ hl
          · rw [he i hi (by have := below_ge _ _ _ (Nat.le_refl _) hb; omega) e']
            exact heap_top S Hc i i (Nat.le_refl _) hi hb
        refine ⟨?_, fun i hi hb => ?_, fun v hv i hi hb => ?_⟩
        · intro i hi hb c' hc' hcn'
          rcases (split i).1 hb with rfl | hb | hb
          · show lt (siftDown lt n first c e)[first + i]! (siftDown lt n first c e)[first + c']! = false
            rw [hrv]
            by_cases e' : c' = c
            · subst e'; exact hcbound _ hcn' (below_self _)
            · obtain rfl : c' = o := by omega
              rw [hob c' hcn' (below_self c')]
              exact hco2 hcn'
          · exact I.heap i hi hb c' hc' hcn'
          · exact heap_congr Ho (fun i hi hb => hob i hi hb) i hi hb c' hc' hcn'
        · have hnr : i ≠ r := fun e' => by rw [e', below_self] at hb; cases hb
          have hnc : belowB i c = false := by
            cases hbc : belowB i c with
            | false => rfl
            | true => rw [(split i).2 (Or.inr (Or.inl hbc))] at hb; cases hb
          exact hoth i hi hnc hnr
        · rcases (split i).1 hb with rfl | hb' | hb'
          · show lt v (siftDown lt n first c e)[first + i]! = false
            rw [hrv]
            exact hv c hcn ((split c).2 (Or.inr (Or.inl (below_self c))))
          · refine I.bound v (fun k hk hbk => ?_) i hi hb'
            show lt v e[first + k]! = false
            by_cases e' : k = c
            · rw [e', hec]; exact hv r (by omega) (below_self r)
            · rw [he k hk (by have := below_ge _ _ _ (Nat.le_refl _) hbk; omega) e']
              exact hv k hk ((split k).2 (Or.inr (Or.inl hbk)))
          · show lt v (siftDown lt n first c e)[first + i]! = false
            rw [hob i hi hb']
            exact hv i hi hb
    by_cases hr2 : 2 * r + 2 < n
    · cases hl : lt d[first + (2 * r + 1)]! d[first + (2 * r + 1) + 1]! with
      | true =>
        refine key (2 * r + 2) (2 * r + 1) (Or.inr ⟨rfl, rfl⟩) hr2 (fun _ => asym _ _ hl) (fun h => sift_right_stop _ _ _ _ hr2 hl h) (fun h => sift_right_go _ _ _ _ hr2 hl h) (fun h _ => ?_)
        cases hh : lt d[first + r]! d[first + (2 * r + 1)]! with
        | false => rfl
        | true => have := S.trans _ _ _ hh hl; rw [show first + (2 * r + 1) + 1 = first + (2 * r + 2) by omega, h] at this; cases this
      | false =>
        exact key (2 * r + 1) (2 * r + 2) (Or.inl ⟨rfl, rfl⟩) (by omega) (fun _ => hl) (fun h => sift_left_stop _ _ _ _ (by omega) (Or.inr hl) h) (fun h => sift_left_go _ _ _ _ (by omega) (Or.inr hl) h) (fun h _ => S.ntrans _ _ _ h hl)
    · exact key (2 * r + 1) (2 * r + 2) (Or.inl ⟨rfl, rfl⟩) (by omega) (fun h => by omega) (fun h => sift_left_stop _ _ _ _ (by omega) (Or.inl hr2) h) (fun h => sift_left_go _ _ _ _ (by omega) (Or.inl hr2) h) (fun _ h => by omega)
end Go.Proofs.YtglgmkikegbchaaGreat
