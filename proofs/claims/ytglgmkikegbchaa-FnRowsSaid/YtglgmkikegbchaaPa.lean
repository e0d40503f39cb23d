/- The sorting's functions as functions over an array: what they do whatever comes of comparing: they permute a part. And how each loop goes on, and stops. No program in this text. -/
import Derived.Sort.LotA
import Derived.Sort.LotB
import Derived.Sort.LotC
import Derived.Sort.LotD1
import Derived.Sort.LotD3
import Derived.Sort.LotD4
namespace Go.Proofs.Ytglgmkikegbchaa
open Go.Sort

variable {α : Type} [Inhabited α] {lt : α → α → Bool}

theorem insInner_perm (a b : Nat) : ∀ (j : Nat) (d : Array α), j < b → b ≤ d.size → PermIn a b d (insInner lt a j d)
  | 0, d, _, _ => permIn_refl d a b
  | j + 1, d, hj, hb => by
    rw [insInner]
    split
    · rename_i h
      simp only [Bool.and_eq_true, decide_eq_true_eq] at h
      have h1 := swp_permIn d a b (j + 1) j (by omega) hj (by omega) (by omega) hb
      have h2 := insInner_perm a b j (swp d (j + 1) j) (by omega) (by rw [size_swp]; exact hb)
      exact permIn_trans _ _ _ _ _ h1 h2
    · exact permIn_refl d a b

theorem insOuter_perm (a b : Nat) : ∀ (n i : Nat) (d : Array α), b - i ≤ n → b ≤ d.size → PermIn a b d (insOuter lt a b i d) := by
  intro n
  induction n with
  | zero => intro i d h hb; rw [insOuter, if_neg (by omega)]; exact permIn_refl d a b
  | succ n ih =>
    intro i d h hb
    rw [insOuter]
    split
    · rename_i hi
      have h1 := insInner_perm (lt := lt) a b i d hi hb
      exact permIn_trans _ _ _ _ _ h1 (ih (i + 1) _ (by omega) (by rw [h1.1]; exact hb))
    · exact permIn_refl d a b

theorem insertionSort_perm (d : Array α) (a b : Nat) (hb : b ≤ d.size) : PermIn a b d (insertionSort lt d a b) := insOuter_perm a b _ _ d (Nat.le_refl _) hb

theorem siftDown_perm (a b hi first : Nat) (ha : a ≤ first) (hb1 : first + hi ≤ b) : ∀ (n root : Nat) (d : Array α), hi - root ≤ n → b ≤ d.size → PermIn a b d (siftDown lt hi first root d) := by
  intro n
  induction n with
  | zero => intro root d h hb; rw [siftDown, dif_pos (by omega)]; exact permIn_refl d a b
  | succ n ih =>
    intro root d h hb
    rw [siftDown]
    split
    · exact permIn_refl d a b
    · rename_i h1
      split
      · rename_i h2
        split
        · exact permIn_refl d a b
        · split
          · rename_i h3
            have p := swp_permIn d a b (first + root) (first + (2 * root + 2)) (by omega) (by omega) (by omega) (by omega) hb
            exact permIn_trans _ _ _ _ _ p (ih _ _ (by omega) (by rw [size_swp]; exact hb))
          · exact permIn_refl d a b
      · split
        · exact permIn_refl d a b
        · have p := swp_permIn d a b (first + root) (first + (2 * root + 1)) (by omega) (by omega) (by omega) (by omega) hb
          exact permIn_trans _ _ _ _ _ p (ih _ _ (by omega) (by rw [size_swp]; exact hb))

theorem heapBuild_perm (a b hi first : Nat) (ha : a ≤ first) (hb1 : first + hi ≤ b) : ∀ (k : Nat) (d : Array α), b ≤ d.size → PermIn a b d (heapBuild lt hi first k d)
  | 0, d, _ => permIn_refl d a b
  | k + 1, d, hb => by
    rw [heapBuild]
    have h1 := siftDown_perm (lt := lt) a b hi first ha hb1 _ k d (Nat.le_refl _) hb
    exact permIn_trans _ _ _ _ _ h1 (heapBuild_perm a b hi first ha hb1 k _ (by rw [h1.1]; exact hb))

theorem heapPop_perm (a b first : Nat) (ha : a ≤ first) : ∀ (k : Nat) (d : Array α), first + k ≤ b → b ≤ d.size → PermIn a b d (heapPop lt first k d)
  | 0, d, _, _ => permIn_refl d a b
  | k + 1, d, hk, hb => by
    rw [heapPop]
    have h0 := swp_permIn d a b first (first + k) ha (by omega) (by omega) (by omega) hb
    have h1 := siftDown_perm (lt := lt) a b k first ha (by omega) _ 0 (swp d first (first + k)) (Nat.le_refl _) (by rw [h0.1]; exact hb)
    refine permIn_trans _ _ _ _ _ (permIn_trans _ _ _ _ _ h0 h1) (heapPop_perm a b first ha k _ (by omega) ?_)
    rw [h1.1, h0.1]; exact hb

theorem heapSort_perm (d : Array α) (a b : Nat) (hab : a ≤ b) (hb : b ≤ d.size) : PermIn a b d (heapSort lt d a b) := by
  rw [heapSort]
  have h1 := heapBuild_perm (lt := lt) a b (b - a) a (Nat.le_refl _) (by omega) ((b - a - 1) / 2 + 1) d hb
  exact permIn_trans _ _ _ _ _ h1 (heapPop_perm a b a (Nat.le_refl _) (b - a) _ (by omega) (by rw [h1.1]; exact hb))

theorem shiftDown_perm (b : Nat) : ∀ (j : Nat) (d : Array α), j < b → b ≤ d.size → PermIn 0 b d (shiftDown lt j d)
  | 0, d, _, _ => permIn_refl d 0 b
  | j + 1, d, hj, hb => by
    rw [shiftDown]
    split
    · exact permIn_refl d 0 b
    · have h1 := swp_permIn d 0 b (j + 1) j (by omega) hj (by omega) (by omega) hb
      exact permIn_trans _ _ _ _ _ h1 (shiftDown_perm b j _ (by omega) (by rw [size_swp]; exact hb))

theorem shiftUp_perm (b : Nat) : ∀ (n j : Nat) (d : Array α), b - j ≤ n → 0 < j → b ≤ d.size → PermIn 0 b d (shiftUp lt b j d) := by
  intro n
  induction n with
  | zero => intro j d h _ hb; rw [shiftUp, if_neg (by omega)]; exact permIn_refl d 0 b
  | succ n ih =>
    intro j d h h0 hb
    rw [shiftUp]
    split
    · rename_i hj
      split
      · exact permIn_refl d 0 b
      · have h1 := swp_permIn d 0 b j (j - 1) (by omega) hj (by omega) (by omega) hb
        exact permIn_trans _ _ _ _ _ h1 (ih (j + 1) _ (by omega) (by omega) (by rw [size_swp]; exact hb))
    · exact permIn_refl d 0 b

theorem scanSorted_range (b : Nat) (d : Array α) : ∀ (n i : Nat), b - i ≤ n → i ≤ b → i ≤ scanSorted lt d b i ∧ scanSorted lt d b i ≤ b := by
  intro n
  induction n with
  | zero => intro i h hi; rw [scanSorted, if_neg (by simp; omega)]; omega
  | succ n ih =>
    intro i h hi
    rw [scanSorted]
    split
    · rename_i hc
      simp only [Bool.and_eq_true, decide_eq_true_eq] at hc
      have := ih (i + 1) (by omega) (by omega)
      omega
    · omega

theorem partialIns_perm (a b : Nat) : ∀ (s i : Nat) (d : Array α), a < i → i ≤ b → b ≤ d.size → PermIn 0 b d (partialIns lt a b s i d).1
  | 0, _, d, _, _, _ => permIn_refl d 0 b
  | s + 1, i, d, hai, hib, hb => by
    have hr := scanSorted_range (lt := lt) b d _ i (Nat.le_refl _) hib
    rw [partialIns_succ]
    split
    · exact permIn_refl d 0 b
    · rename_i hne
      split
      · exact permIn_refl d 0 b
      · have h0 := swp_permIn d 0 b (scanSorted lt d b i) (scanSorted lt d b i - 1) (by omega) (by omega) (by omega) (by omega) hb
        have h1 : PermIn 0 b (swp d (scanSorted lt d b i) (scanSorted lt d b i - 1)) (fixDown lt a (scanSorted lt d b i) (swp d (scanSorted lt d b i) (scanSorted lt d b i - 1))) := by
          unfold fixDown; split
          · exact shiftDown_perm b _ _ (by omega) (by rw [size_swp]; exact hb)
          · exact permIn_refl _ 0 b
        have s1 : (fixDown lt a (scanSorted lt d b i) (swp d (scanSorted lt d b i) (scanSorted lt d b i - 1))).size = d.size := by rw [h1.1, size_swp]
        have h2 : PermIn 0 b (fixDown lt a (scanSorted lt d b i) (swp d (scanSorted lt d b i) (scanSorted lt d b i - 1))) (fixUp lt b (scanSorted lt d b i) (fixDown lt a (scanSorted lt d b i) (swp d (scanSorted lt d b i) (scanSorted lt d b i - 1)))) := by
          unfold fixUp; split
          · exact shiftUp_perm b _ _ _ (Nat.le_refl _) (by omega) (by rw [s1]; exact hb)
          · exact permIn_refl _ 0 b
        have s2 := h2.1.trans s1
        exact permIn_trans _ _ _ _ _ (permIn_trans _ _ _ _ _ (permIn_trans _ _ _ _ _ h0 h1) h2) (partialIns_perm a b s _ _ (by omega) (by omega) (by rw [s2]; exact hb))

theorem partialInsertionSort_perm (d : Array α) (a b : Nat) (hab : a < b) (hb : b ≤ d.size) : PermIn 0 b d (partialInsertionSort lt d a b).1 := partialIns_perm a b 5 (a + 1) d (by omega) (by omega) hb

theorem partition_any (d : Array α) (a b pivot : Nat) (hap : a ≤ pivot) (hpb : pivot < b) (hb : b ≤ d.size) :
    a ≤ (partition lt d a b pivot).1 ∧ (partition lt d a b pivot).1 < b ∧ PermIn a b d (partition lt d a b pivot).2.2 := by
  rw [partition_fst, partition_arr]
  have hb0 : b ≤ (swp d a pivot).size := by rw [size_swp]; exact hb
  obtain ⟨r1, r2, r3, _, _⟩ := partLoop_spec lt a b _ (a + 1) (b - 1) (swp d a pivot) (Nat.le_refl _) (Nat.lt_succ_self a) (by omega) (by omega) hb0 (fun t h1 h2 => by omega) (fun t h1 h2 => by omega)
  generalize partLoop lt a (a + 1) (b - 1) (swp d a pivot) = res at r1 r2 r3 ⊢
  obtain ⟨r, d'⟩ := res
  simp only at r1 r2 r3 ⊢
  have hs : d'.size = d.size := by rw [r3.1, size_swp]
  exact ⟨r1, r2, permIn_trans _ _ _ _ _ (swp_permIn d a b a pivot (Nat.le_refl _) (by omega) hap hpb hb)
      (permIn_trans _ _ _ _ _ (permIn_mono _ _ (a + 1) b a b (Nat.le_succ a) (Nat.le_refl _) hb0 r3) (swp_permIn d' a b r a r1 r2 (Nat.le_refl _) (by omega) (by omega)))⟩

theorem partitionEqual_any (d : Array α) (a b pivot : Nat) (hap : a ≤ pivot) (hpb : pivot < b) (hb : b ≤ d.size) :
    a < (partitionEqual lt d a b pivot).1 ∧ (partitionEqual lt d a b pivot).1 ≤ b ∧ PermIn a b d (partitionEqual lt d a b pivot).2 := by
  unfold partitionEqual
  have hb0 : b ≤ (swp d a pivot).size := by rw [size_swp]; exact hb
  obtain ⟨r1, r2, r3, _, _⟩ := partEqLoop_spec lt a b _ (a + 1) (b - 1) (swp d a pivot) (Nat.le_refl _) (Nat.lt_succ_self a) (by omega) (by omega) hb0 (fun t h1 h2 => by omega) (fun t h1 h2 => by omega)
  exact ⟨r1, r2, permIn_trans _ _ _ _ _ (swp_permIn d a b a pivot (Nat.le_refl _) (by omega) hap hpb hb) (permIn_mono _ _ (a + 1) b a b (Nat.le_succ a) (Nat.le_refl _) hb0 r3)⟩

theorem break_any (d : Array α) {a b : Nat} (hab : a ≤ b) (hb : b ≤ d.size) (c : Prop) [Decidable c] : PermIn 0 b d (if c then breakPatterns d a b else d) := by
  split
  · exact permIn_mono _ _ a b 0 b (Nat.zero_le _) (Nat.le_refl _) hb (breakPatterns_holds d a b hab hb)
  · exact permIn_refl d 0 b
theorem reverse_any (d : Array α) {a b : Nat} (hab : a ≤ b) (hb : b ≤ d.size) (c : Prop) [Decidable c] : PermIn 0 b d (if c then reverseRange d a b else d) := by
  split
  · exact permIn_mono _ _ a b 0 b (Nat.zero_le _) (Nat.le_refl _) hb (reverseRange_holds d a b hab hb)
  · exact permIn_refl d 0 b
theorem partial_any (d : Array α) {a b : Nat} (hab : a < b) (hb : b ≤ d.size) (c : Prop) [Decidable c] : PermIn 0 b d (if c then partialInsertionSort lt d a b else (d, false)).1 := by
  split
  · exact partialInsertionSort_perm d a b hab hb
  · exact permIn_refl d 0 b

/-- pdqsort, whatever comes of comparing: the elements ahead of b are permuted among themselves. -/
theorem pdq_any (lt : α → α → Bool) (d : Array α) (a b limit : Nat) (wb wp : Bool) : a ≤ b → b ≤ d.size → PermIn 0 b d (pdq lt d a b limit wb wp) := by
  fun_induction pdq lt d a b limit wb wp
  case case1 d a b limit wb wp h12 => intro hab hb; exact permIn_mono _ _ a b 0 b (Nat.zero_le _) (Nat.le_refl _) hb (insertionSort_perm d a b hb)
  case case2 d a b wb wp h12 => intro hab hb; exact permIn_mono _ _ a b 0 b (Nat.zero_le _) (Nat.le_refl _) hb (heapSort_perm d a b hab hb)
  case case3 d a b limit wb wp h12 hl d1 c d2 hint pi hpi2 =>
    intro hab hb
    have s1 : PermIn 0 b d d1 := break_any d hab hb _
    have b1 : b ≤ d1.size := by rw [s1.1]; exact hb
    have s2 : PermIn 0 b d1 d2 := reverse_any d1 hab b1 _
    have b2 : b ≤ d2.size := by rw [s2.1]; exact b1
    have s3 := partial_any (lt := lt) d2 (a := a) (b := b) (by omega) b2 ((wb && wp && decide (hint = Hint.increasing)) = true)
    exact permIn_trans _ _ _ 0 b (permIn_trans _ _ _ 0 b s1 s2) s3
  case case4 d a b limit0 wb wp h12 hl d1 limit c d2 pivot hint pi hpi2 d3 hc mid d4 hx hg ih1 =>
    intro hab hb
    have s1 : PermIn 0 b d d1 := break_any d hab hb _
    have b1 : b ≤ d1.size := by rw [s1.1]; exact hb
    have s2 : PermIn 0 b d1 d2 := reverse_any d1 hab b1 _
    have b2 : b ≤ d2.size := by rw [s2.1]; exact b1
    have s3 : PermIn 0 b d2 d3 := partial_any (lt := lt) d2 (a := a) (b := b) (by omega) b2 ((wb && wp && decide (hint = Hint.increasing)) = true)
    have b3 : b ≤ d3.size := by rw [s3.1]; exact b2
    have P3 : PermIn 0 b d d3 := permIn_trans _ _ _ 0 b (permIn_trans _ _ _ 0 b s1 s2) s3
    have hc0 := choosePivot_holds lt d1 a b (by omega)
    have hpv : a ≤ pivot ∧ pivot < b := pivot_range hc0.1 hc0.2 _
    have h4 := (partitionEqual_any (lt := lt) d3 a b pivot hpv.1 hpv.2 b3).2.2
    rw [hx] at h4
    have h4' : PermIn 0 b d3 d4 := permIn_mono _ _ a b 0 b (Nat.zero_le _) (Nat.le_refl _) b3 h4
    exact permIn_trans _ _ _ 0 b (permIn_trans _ _ _ 0 b P3 h4') (ih1 hg.2 (by rw [h4'.1]; exact b3))
  case case5 d a b limit wb wp h12 hl d1 c d2 pivot hint pi hpi2 d3 hc mid d4 hx hg =>
    intro hab hb
    have s1 : PermIn 0 b d d1 := break_any d hab hb _
    have b1 : b ≤ d1.size := by rw [s1.1]; exact hb
    have s2 : PermIn 0 b d1 d2 := reverse_any d1 hab b1 _
    have b2 : b ≤ d2.size := by rw [s2.1]; exact b1
    have s3 : PermIn 0 b d2 d3 := partial_any (lt := lt) d2 (a := a) (b := b) (by omega) b2 ((wb && wp && decide (hint = Hint.increasing)) = true)
    have b3 : b ≤ d3.size := by rw [s3.1]; exact b2
    have P3 : PermIn 0 b d d3 := permIn_trans _ _ _ 0 b (permIn_trans _ _ _ 0 b s1 s2) s3
    have hc0 := choosePivot_holds lt d1 a b (by omega)
    have hpv : a ≤ pivot ∧ pivot < b := pivot_range hc0.1 hc0.2 _
    have h4 := (partitionEqual_any (lt := lt) d3 a b pivot hpv.1 hpv.2 b3).2.2
    rw [hx] at h4
    have h4' : PermIn 0 b d3 d4 := permIn_mono _ _ a b 0 b (Nat.zero_le _) (Nat.le_refl _) b3 h4
    exact permIn_trans _ _ _ 0 b P3 h4'
  case case6 d a b limit0 wb wp h12 hl d1 limit c d2 pivot hint pi hpi2 d3 hc mid ap d4 hx hg hlt ih3 ih2 ih1 =>
    intro hab hb
    have s1 : PermIn 0 b d d1 := break_any d hab hb _
    have b1 : b ≤ d1.size := by rw [s1.1]; exact hb
    have s2 : PermIn 0 b d1 d2 := reverse_any d1 hab b1 _
    have b2 : b ≤ d2.size := by rw [s2.1]; exact b1
    have s3 : PermIn 0 b d2 d3 := partial_any (lt := lt) d2 (a := a) (b := b) (by omega) b2 ((wb && wp && decide (hint = Hint.increasing)) = true)
    have b3 : b ≤ d3.size := by rw [s3.1]; exact b2
    have P3 : PermIn 0 b d d3 := permIn_trans _ _ _ 0 b (permIn_trans _ _ _ 0 b s1 s2) s3
    have hc0 := choosePivot_holds lt d1 a b (by omega)
    have hpv : a ≤ pivot ∧ pivot < b := pivot_range hc0.1 hc0.2 _
    have h4 := (partition_any (lt := lt) d3 a b pivot hpv.1 hpv.2 b3).2.2
    rw [hx] at h4
    have h4' : PermIn 0 b d3 d4 := permIn_mono _ _ a b 0 b (Nat.zero_le _) (Nat.le_refl _) b3 h4
    have b4 : b ≤ d4.size := by rw [h4'.1]; exact b3
    have l := ih3 hg.1 (by omega)
    have l' := permIn_mono _ _ 0 mid 0 b (Nat.le_refl _) (by omega) b4 l
    have r := ih1 (by omega) (by rw [l.1]; exact b4)
    exact permIn_trans _ _ _ 0 b (permIn_trans _ _ _ 0 b (permIn_trans _ _ _ 0 b P3 h4') l') r
  case case7 d a b limit0 wb wp h12 hl d1 limit c d2 pivot hint pi hpi2 d3 hc mid ap d4 hx hg hlt ih3 ih2 ih1 =>
    intro hab hb
    have s1 : PermIn 0 b d d1 := break_any d hab hb _
    have b1 : b ≤ d1.size := by rw [s1.1]; exact hb
    have s2 : PermIn 0 b d1 d2 := reverse_any d1 hab b1 _
    have b2 : b ≤ d2.size := by rw [s2.1]; exact b1
    have s3 : PermIn 0 b d2 d3 := partial_any (lt := lt) d2 (a := a) (b := b) (by omega) b2 ((wb && wp && decide (hint = Hint.increasing)) = true)
    have b3 : b ≤ d3.size := by rw [s3.1]; exact b2
    have P3 : PermIn 0 b d d3 := permIn_trans _ _ _ 0 b (permIn_trans _ _ _ 0 b s1 s2) s3
    have hc0 := choosePivot_holds lt d1 a b (by omega)
    have hpv : a ≤ pivot ∧ pivot < b := pivot_range hc0.1 hc0.2 _
    have h4 := (partition_any (lt := lt) d3 a b pivot hpv.1 hpv.2 b3).2.2
    rw [hx] at h4
    have h4' : PermIn 0 b d3 d4 := permIn_mono _ _ a b 0 b (Nat.zero_le _) (Nat.le_refl _) b3 h4
    have b4 : b ≤ d4.size := by rw [h4'.1]; exact b3
    have l := ih3 (by omega) b4
    have r := ih1 hg.1 (by rw [l.1]; omega)
    have r' := permIn_mono _ _ 0 mid 0 b (Nat.le_refl _) (by omega) (by rw [l.1]; exact b4) r
    exact permIn_trans _ _ _ 0 b (permIn_trans _ _ _ 0 b (permIn_trans _ _ _ 0 b P3 h4') l) r'
  case case8 d a b limit wb wp h12 hl d1 c d2 pivot hint pi hpi2 d3 hc mid ap d4 hx hg =>
    intro hab hb
    have s1 : PermIn 0 b d d1 := break_any d hab hb _
    have b1 : b ≤ d1.size := by rw [s1.1]; exact hb
    have s2 : PermIn 0 b d1 d2 := reverse_any d1 hab b1 _
    have b2 : b ≤ d2.size := by rw [s2.1]; exact b1
    have s3 : PermIn 0 b d2 d3 := partial_any (lt := lt) d2 (a := a) (b := b) (by omega) b2 ((wb && wp && decide (hint = Hint.increasing)) = true)
    have b3 : b ≤ d3.size := by rw [s3.1]; exact b2
    have P3 : PermIn 0 b d d3 := permIn_trans _ _ _ 0 b (permIn_trans _ _ _ 0 b s1 s2) s3
    have hc0 := choosePivot_holds lt d1 a b (by omega)
    have hpv : a ≤ pivot ∧ pivot < b := pivot_range hc0.1 hc0.2 _
    have h4 := (partition_any (lt := lt) d3 a b pivot hpv.1 hpv.2 b3).2.2
    rw [hx] at h4
    exact permIn_trans _ _ _ 0 b P3 (permIn_mono _ _ a b 0 b (Nat.zero_le _) (Nat.le_refl _) b3 h4)

section
variable {α : Type} [Inhabited α] {lt : α → α → Bool}
/-! ### how each loop goes on, and stops -/
theorem insI_go (a j : Nat) (d : Array α) (hj : a < j + 1) (hl : lt d[j + 1]! d[j]! = true) : insInner lt a (j + 1) d = insInner lt a j (swp d (j + 1) j) := by
  rw [insInner, if_pos (by simp [hl]; omega)]
theorem insI_stop (a j : Nat) (d : Array α) (h : j ≤ a ∨ lt d[j]! d[j - 1]! = false) : insInner lt a j d = d := by
  cases j with
  | zero => rfl
  | succ j =>
    rw [insInner, if_neg]
    rintro h1
    simp only [Bool.and_eq_true, decide_eq_true_eq, Nat.add_sub_cancel] at h1 h
    rcases h with h | h
    · omega
    · rw [h] at h1; simp at h1
theorem insO_go (a b i : Nat) (d : Array α) (h : i < b) : insOuter lt a b i d = insOuter lt a b (i + 1) (insInner lt a i d) := by rw [insOuter, if_pos h]
theorem insO_stop (a b i : Nat) (d : Array α) (h : ¬ i < b) : insOuter lt a b i d = d := by rw [insOuter, if_neg h]
end
end Go.Proofs.Ytglgmkikegbchaa
