/- Texts of this claim, laid together: Pa, Pb, Pc, Pe, Nat, Pd. -/
import Derived.Sort.LotA
import Derived.Sort.LotB
import Derived.Sort.LotC
import Derived.Sort.LotD1
import Derived.Sort.LotD3
import Derived.Sort.LotD4
import Derived.Sort.Walk13a
/- The sorting's functions as functions over an array: what they do whatever comes of comparing: they permute a part. And how each loop goes on, and stops. No program in this text. -/
namespace Go.Proofs.YtglgmkikegbchaaGreat
open Go.Sort

variable {α : Type} [Inhabited α] {lt : α → α → Bool}

theorem insInner_perm (a b : Nat) : ∀ (j : Nat) (d : Array α), j < b → b ≤ d.size → PermIn a b d (insInner lt a j d)
  | 0, d, _, _ => permIn_refl d a b
  | j + 1, d, hj, hb => by
    rw [insInner]
    split
    · rename_i h
      simp only [Bool.and_eq_true, decide_eq_true_eq] at h
      have h1 := swp_permIn d a b (j + 1) j (by omega) hj (by omega) (by omega) hb
      have h2 := insInner_perm a b j (swp d (j + 1) j) (by omega) (by rw [size_swp]; exact hb)
      exact permIn_trans _ _ _ _ _ h1 h2
    · exact permIn_refl d a b

theorem insOuter_perm (a b : Nat) : ∀ (n i : Nat) (d : Array α), b - i ≤ n → b ≤ d.size → PermIn a b d (insOuter lt a b i d) := by
  intro n
  induction n with
  | zero => intro i d h hb; rw [insOuter, if_neg (by omega)]; exact permIn_refl d a b
  | succ n ih =>
    intro i d h hb
    rw [insOuter]
    split
    · rename_i hi
      have h1 := insInner_perm (lt := lt) a b i d hi hb
      exact permIn_trans _ _ _ _ _ h1 (ih (i + 1) _ (by omega) (by rw [h1.1]; exact hb))
    · exact permIn_refl d a b

theorem insertionSort_perm (d : Array α) (a b : Nat) (hb : b ≤ d.size) : PermIn a b d (insertionSort lt d a b) := insOuter_perm a b _ _ d (Nat.le_refl _) hb

theorem siftDown_perm (a b hi first : Nat) (ha : a ≤ first) (hb1 : first + hi ≤ b) : ∀ (n root : Nat) (d : Array α), hi - root ≤ n → b ≤ d.size → PermIn a b d (siftDown lt hi first root d) := by
  intro n
  induction n with
  | zero => intro root d h hb; rw [siftDown, dif_pos (by omega)]; exact permIn_refl d a b
  | succ n ih =>
    intro root d h hb
    rw [siftDown]
    split
    · exact permIn_refl d a b
    · rename_i h1
      split
      · rename_i h2
        split
        · exact permIn_refl d a b
        · split
          · rename_i h3
            have p := swp_permIn d a b (first + root) (first + (2 * root + 2)) (by omega) (by omega) (by omega) (by omega) hb
            exact permIn_trans _ _ _ _ _ p (ih _ _ (by omega) (by rw [size_swp]; exact hb))
          · exact permIn_refl d a b
      · split
        · exact permIn_refl d a b
        · have p := swp_permIn d a b (first + root) (first + (2 * root + 1)) (by omega) (by omega) (by omega) (by omega) hb
          exact permIn_trans _ _ _ _ _ p (ih _ _ (by omega) (by rw [size_swp]; exact hb))

theorem heapBuild_perm (a b hi first : Nat) (ha : a ≤ first) (hb1 : first + hi ≤ b) : ∀ (k : Nat) (d : Array α), b ≤ d.size → PermIn a b d (heapBuild lt hi first k d)
  | 0, d, _ => permIn_refl d a b
  | k + 1, d, hb => by
    rw [heapBuild]
    have h1 := siftDown_perm (lt := lt) a b hi first ha hb1 _ k d (Nat.le_refl _) hb
    exact permIn_trans _ _ _ _ _ h1 (heapBuild_perm a b hi first ha hb1 k _ (by rw [h1.1]; exact hb))

theorem heapPop_perm (a b first : Nat) (ha : a ≤ first) : ∀ (k : Nat) (d : Array α), first + k ≤ b → b ≤ d.size → PermIn a b d (heapPop lt first k d)
  | 0, d, _, _ => permIn_refl d a b
  | k + 1, d, hk, hb => by
    rw [heapPop]
    have h0 := swp_permIn d a b first (first + k) ha (by omega) (by omega) (by omega) hb
    have h1 := siftDown_perm (lt := lt) a b k first ha (by omega) _ 0 (swp d first (first + k)) (Nat.le_refl _) (by rw [h0.1]; exact hb)
    refine permIn_trans _ _ _ _ _ (permIn_trans _ _ _ _ _ h0 h1) (heapPop_perm a b first ha k _ (by omega) ?_)
    rw [h1.1, h0.1]; exact hb

theorem heapSort_perm (d : Array α) (a b : Nat) (hab : a ≤ b) (hb : b ≤ d.size) : PermIn a b d (heapSort lt d a b) := by
  rw [heapSort]
  have h1 := heapBuild_perm (lt := lt) a b (b - a) a (Nat.le_refl _) (by omega) ((b - a - 1) / 2 + 1) d hb
  exact permIn_trans _ _ _ _ _ h1 (heapPop_perm a b a (Nat.le_refl _) (b - a) _ (by omega) (by rw [h1.1]; exact hb))

theorem shiftDown_perm (b : Nat) : ∀ (j : Nat) (d : Array α), j < b → b ≤ d.size → PermIn 0 b d (shiftDown lt j d)
  | 0, d, _, _ => permIn_refl d 0 b
  | j + 1, d, hj, hb => by
    rw [shiftDown]
    split
    · exact permIn_refl d 0 b
    · have h1 := swp_permIn d 0 b (j + 1) j (by omega) hj (by omega) (by omega) hb
      exact permIn_trans _ _ _ _ _ h1 (shiftDown_perm b j _ (by omega) (by rw [size_swp]; exact hb))

theorem shiftUp_perm (b : Nat) : ∀ (n j : Nat) (d : Array α), b - j ≤ n → 0 < j → b ≤ d.size → PermIn 0 b d (shiftUp lt b j d) := by
  intro n
  induction n with
  | zero => intro j d h _ hb; rw [shiftUp, if_neg (by omega)]; exact permIn_refl d 0 b
  | succ n ih =>
    intro j d h h0 hb
    rw [shiftUp]
    split
    · rename_i hj
      split
      · exact permIn_refl d 0 b
      · have h1 := swp_permIn d 0 b j (j - 1) (by omega) hj (by omega) (by omega) hb
        exact permIn_trans _ _ _ _ _ h1 (ih (j + 1) _ (by omega) (by omega) (by rw [size_swp]; exact hb))
    · exact permIn_refl d 0 b

theorem scanSorted_range (b : Nat) (d : Array α) : ∀ (n i : Nat), b - i ≤ n → i ≤ b → i ≤ scanSorted lt d b i ∧ scanSorted lt d b i ≤ b := by
  intro n
  induction n with
  | zero => intro i h hi; rw [scanSorted, if_neg (by simp; omega)]; omega
  | succ n ih =>
    intro i h hi
    rw [scanSorted]
    split
    · rename_i hc
      simp only [Bool.and_eq_true, decide_eq_true_eq] at hc
      have := ih (i + 1) (by omega) (by omega)
      omega
    · omega

theorem partialIns_perm (a b : Nat) : ∀ (s i : Nat) (d : Array α), a < i → i ≤ b → b ≤ d.size → PermIn 0 b d (partialIns lt a b s i d).1
  | 0, _, d, _, _, _ => permIn_refl d 0 b
  | s + 1, i, d, hai, hib, hb => by
    have hr := scanSorted_range (lt := lt) b d _ i (Nat.le_refl _) hib
    rw [partialIns_succ]
    split
    · exact permIn_refl d 0 b
    · rename_i hne
      split
      · exact permIn_refl d 0 b
      · have h0 := swp_permIn d 0 b (scanSorted lt d b i) (scanSorted lt d b i - 1) (by omega) (by omega) (by omega) (by omega) hb
        have h1 : PermIn 0 b (swp d (scanSorted lt d b i) (scanSorted lt d b i - 1)) (fixDown lt a (scanSorted lt d b i) (swp d (scanSorted lt d b i) (scanSorted lt d b i - 1))) := by
          unfold fixDown; split
          · exact shiftDown_perm b _ _ (by omega) (by rw [size_swp]; exact hb)
          · exact permIn_refl _ 0 b
        have s1 : (fixDown lt a (scanSorted lt d b i) (swp d (scanSorted lt d b i) (scanSorted lt d b i - 1))).size = d.size := by rw [h1.1, size_swp]
        have h2 : PermIn 0 b (fixDown lt a (scanSorted lt d b i) (swp d (scanSorted lt d b i) (scanSorted lt d b i - 1))) (fixUp lt b (scanSorted lt d b i) (fixDown lt a (scanSorted lt d b i) (swp d (scanSorted lt d b i) (scanSorted lt d b i - 1)))) := by
          unfold fixUp; split
          · exact shiftUp_perm b _ _ _ (Nat.le_refl _) (by omega) (by rw [s1]; exact hb)
          · exact permIn_refl _ 0 b
        have s2 := h2.1.trans s1
        exact permIn_trans _ _ _ _ _ (permIn_trans _ _ _ _ _ (permIn_trans _ _ _ _ _ h0 h1) h2) (partialIns_perm a b s _ _ (by omega) (by omega) (by rw [s2]; exact hb))

theorem partialInsertionSort_perm (d : Array α) (a b : Nat) (hab : a < b) (hb : b ≤ d.size) : PermIn 0 b d (partialInsertionSort lt d a b).1 := partialIns_perm a b 5 (a + 1) d (by omega) (by omega) hb

theorem partition_any (d : Array α) (a b pivot : Nat) (hap : a ≤ pivot) (hpb : pivot < b) (hb : b ≤ d.size) :
    a ≤ (partition lt d a b pivot).1 ∧ (partition lt d a b pivot).1 < b ∧ PermIn a b d (partition lt d a b pivot).2.2 := by
  rw [partition_fst, partition_arr]
  have hb0 : b ≤ (swp d a pivot).size := by rw [size_swp]; exact hb
  obtain ⟨r1, r2, r3, _, _⟩ := partLoop_spec lt a b _ (a + 1) (b - 1) (swp d a pivot) (Nat.le_refl _) (Nat.lt_succ_self a) (by omega) (by omega) hb0 (fun t h1 h2 => by omega) (fun t h1 h2 => by omega)
  generalize partLoop lt a (a + 1) (b - 1) (swp d a pivot) = res at r1 r2 r3 ⊢
  obtain ⟨r, d'⟩ := res
  simp only at r1 r2 r3 ⊢
  have hs : d'.size = d.size := by rw [r3.1, size_swp]
  exact ⟨r1, r2, permIn_trans _ _ _ _ _ (swp_permIn d a b a pivot (Nat.le_refl _) (by omega) hap hpb hb)
      (permIn_trans _ _ _ _ _ (permIn_mono _ _ (a + 1) b a b (Nat.le_succ a) (Nat.le_refl _) hb0 r3) (swp_permIn d' a b r a r1 r2 (Nat.le_refl _) (by omega) (by omega)))⟩

theorem partitionEqual_any (d : Array α) (a b pivot : Nat) (hap : a ≤ pivot) (hpb : pivot < b) (hb : b ≤ d.size) :
    a < (partitionEqual lt d a b pivot).1 ∧ (partitionEqual lt d a b pivot).1 ≤ b ∧ PermIn a b d (partitionEqual lt d a b pivot).2 := by
  unfold partitionEqual
  have hb0 : b ≤ (swp d a pivot).size := by rw [size_swp]; exact hb
  obtain ⟨r1, r2, r3, _, _⟩ := partEqLoop_spec lt a b _ (a + 1) (b - 1) (swp d a pivot) (Nat.le_refl _) (Nat.lt_succ_self a) (by omega) (by omega) hb0 (fun t h1 h2 => by omega) (fun t h1 h2 => by omega)
  exact ⟨r1, r2, permIn_trans _ _ _ _ _ (swp_permIn d a b a pivot (Nat.le_refl _) (by omega) hap hpb hb) (permIn_mono _ _ (a + 1) b a b (Nat.le_succ a) (Nat.le_refl _) hb0 r3)⟩

theorem break_any (d : Array α) {a b : Nat} (hab : a ≤ b) (hb : b ≤ d.size) (c : Prop) [Decidable c] : PermIn 0 b d (if c then breakPatterns d a b else d) := by
  split
  · exact permIn_mono _ _ a b 0 b (Nat.zero_le _) (Nat.le_refl _) hb (breakPatterns_holds d a b hab hb)
  · exact permIn_refl d 0 b
theorem reverse_any (d : Array α) {a b : Nat} (hab : a ≤ b) (hb : b ≤ d.size) (c : Prop) [Decidable c] : PermIn 0 b d (if c then reverseRange d a b else d) := by
  split
  · exact permIn_mono _ _ a b 0 b (Nat.zero_le _) (Nat.le_refl _) hb (reverseRange_holds d a b hab hb)
  · exact permIn_refl d 0 b
theorem partial_any (d : Array α) {a b : Nat} (hab : a < b) (hb : b ≤ d.size) (c : Prop) [Decidable c] : PermIn 0 b d (if c then partialInsertionSort lt d a b else (d, false)).1 := by
  split
  · exact partialInsertionSort_perm d a b hab hb
  · exact permIn_refl d 0 b

/-- pdqsort, whatever comes of comparing: the elements ahead of b are permuted among themselves. -/
theorem pdq_any (lt : α → α → Bool) (d : Array α) (a b limit : Nat) (wb wp : Bool) : a ≤ b → b ≤ d.size → PermIn 0 b d (pdq lt d a b limit wb wp) := by
  fun_induction pdq lt d a b limit wb wp
  case case1 d a b limit wb wp h12 => intro hab hb; exact permIn_mono _ _ a b 0 b (Nat.zero_le _) (Nat.le_refl _) hb (insertionSort_perm d a b hb)
  case case2 d a b wb wp h12 => intro hab hb; exact permIn_mono _ _ a b 0 b (Nat.zero_le _) (Nat.le_refl _) hb (heapSort_perm d a b hab hb)
  case case3 d a b limit wb wp h12 hl d1 c d2 hint pi hpi2 =>
    intro hab hb
    have s1 : PermIn 0 b d d1 := break_any d hab hb _
    have b1 : b ≤ d1.size := by rw [s1.1]; exact hb
    have s2 : PermIn 0 b d1 d2 := reverse_any d1 hab b1 _
    have b2 : b ≤ d2.size := by rw [s2.1]; exact b1
    have s3 := partial_any (lt := lt) d2 (a := a) (b := b) (by omega) b2 ((wb && wp && decide (hint = Hint.increasing)) = true)
    exact permIn_trans _ _ _ 0 b (permIn_trans _ _ _ 0 b s1 s2) s3
  case case4 d a b limit0 wb wp h12 hl d1 limit c d2 pivot hint pi hpi2 d3 hc mid d4 hx hg ih1 =>
    intro hab hb
    have s1 : PermIn 0 b d d1 := break_any d hab hb _
    have b1 : b ≤ d1.size := by rw [s1.1]; exact hb
    have s2 : PermIn 0 b d1 d2 := reverse_any d1 hab b1 _
    have b2 : b ≤ d2.size := by rw [s2.1]; exact b1
    have s3 : PermIn 0 b d2 d3 := partial_any (lt := lt) d2 (a := a) (b := b) (by omega) b2 ((wb && wp && decide (hint = Hint.increasing)) = true)
    have b3 : b ≤ d3.size := by rw [s3.1]; exact b2
    have P3 : PermIn 0 b d d3 := permIn_trans _ _ _ 0 b (permIn_trans _ _ _ 0 b s1 s2) s3
    have hc0 := choosePivot_holds lt d1 a b (by omega)
    have hpv : a ≤ pivot ∧ pivot < b := pivot_range hc0.1 hc0.2 _
    have h4 := (partitionEqual_any (lt := lt) d3 a b pivot hpv.1 hpv.2 b3).2.2
    rw [hx] at h4
    have h4' : PermIn 0 b d3 d4 := permIn_mono _ _ a b 0 b (Nat.zero_le _) (Nat.le_refl _) b3 h4
    exact permIn_trans _ _ _ 0 b (permIn_trans _ _ _ 0 b P3 h4') (ih1 hg.2 (by rw [h4'.1]; exact b3))
  case case5 d a b limit wb wp h12 hl d1 c d2 pivot hint pi hpi2 d3 hc mid d4 hx hg =>
    intro hab hb
    have s1 : PermIn 0 b d d1 := break_any d hab hb _
    have b1 : b ≤ d1.size := by rw [s1.1]; exact hb
    have s2 : PermIn 0 b d1 d2 := reverse_any d1 hab b1 _
    have b2 : b ≤ d2.size := by rw [s2.1]; exact b1
    have s3 : PermIn 0 b d2 d3 := partial_any (lt := lt) d2 (a := a) (b := b) (by omega) b2 ((wb && wp && decide (hint = Hint.increasing)) = true)
    have b3 : b ≤ d3.size := by rw [s3.1]; exact b2
    have P3 : PermIn 0 b d d3 := permIn_trans _ _ _ 0 b (permIn_trans _ _ _ 0 b s1 s2) s3
    have hc0 := choosePivot_holds lt d1 a b (by omega)
    have hpv : a ≤ pivot ∧ pivot < b := pivot_range hc0.1 hc0.2 _
    have h4 := (partitionEqual_any (lt := lt) d3 a b pivot hpv.1 hpv.2 b3).2.2
    rw [hx] at h4
    have h4' : PermIn 0 b d3 d4 := permIn_mono _ _ a b 0 b (Nat.zero_le _) (Nat.le_refl _) b3 h4
    exact permIn_trans _ _ _ 0 b P3 h4'
  case case6 d a b limit0 wb wp h12 hl d1 limit c d2 pivot hint pi hpi2 d3 hc mid ap d4 hx hg hlt ih3 ih2 ih1 =>
    intro hab hb
    have s1 : PermIn 0 b d d1 := break_any d hab hb _
    have b1 : b ≤ d1.size := by rw [s1.1]; exact hb
    have s2 : PermIn 0 b d1 d2 := reverse_any d1 hab b1 _
    have b2 : b ≤ d2.size := by rw [s2.1]; exact b1
    have s3 : PermIn 0 b d2 d3 := partial_any (lt := lt) d2 (a := a) (b := b) (by omega) b2 ((wb && wp && decide (hint = Hint.increasing)) = true)
    have b3 : b ≤ d3.size := by rw [s3.1]; exact b2
    have P3 : PermIn 0 b d d3 := permIn_trans _ _ _ 0 b (permIn_trans _ _ _ 0 b s1 s2) s3
    have hc0 := choosePivot_holds lt d1 a b (by omega)
    have hpv : a ≤ pivot ∧ pivot < b := pivot_range hc0.1 hc0.2 _
    have h4 := (partition_any (lt := lt) d3 a b pivot hpv.1 hpv.2 b3).2.2
    rw [hx] at h4
    have h4' : PermIn 0 b d3 d4 := permIn_mono _ _ a b 0 b (Nat.zero_le _) (Nat.le_refl _) b3 h4
    have b4 : b ≤ d4.size := by rw [h4'.1]; exact b3
    have l := ih3 hg.1 (by omega)
    have l' := permIn_mono _ _ 0 mid 0 b (Nat.le_refl _) (by omega) b4 l
    have r := ih1 (by omega) (by rw [l.1]; exact b4)
    exact permIn_trans _ _ _ 0 b (permIn_trans _ _ _ 0 b (permIn_trans _ _ _ 0 b P3 h4') l') r
  case case7 d a b limit0 wb wp h12 hl d1 limit c d2 pivot hint pi hpi2 d3 hc mid ap d4 hx hg hlt ih3 ih2 ih1 =>
    intro hab hb
    have s1 : PermIn 0 b d d1 := break_any d hab hb _
    have b1 : b ≤ d1.size := by rw [s1.1]; exact hb
    have s2 : PermIn 0 b d1 d2 := reverse_any d1 hab b1 _
    have b2 : b ≤ d2.size := by rw [s2.1]; exact b1
    have s3 : PermIn 0 b d2 d3 := partial_any (lt := lt) d2 (a := a) (b := b) (by omega) b2 ((wb && wp && decide (hint = Hint.increasing)) = true)
    have b3 : b ≤ d3.size := by rw [s3.1]; exact b2
    have P3 : PermIn 0 b d d3 := permIn_trans _ _ _ 0 b (permIn_trans _ _ _ 0 b s1 s2) s3
    have hc0 := choosePivot_holds lt d1 a b (by omega)
    have hpv : a ≤ pivot ∧ pivot < b := pivot_range hc0.1 hc0.2 _
    have h4 := (partition_any (lt := lt) d3 a b pivot hpv.1 hpv.2 b3).2.2
    rw [hx] at h4
    have h4' : PermIn 0 b d3 d4 := permIn_mono _ _ a b 0 b (Nat.zero_le _) (Nat.le_refl _) b3 h4
    have b4 : b ≤ d4.size := by rw [h4'.1]; exact b3
    have l := ih3 (by omega) b4
    have r := ih1 hg.1 (by rw [l.1]; omega)
    have r' := permIn_mono _ _ 0 mid 0 b (Nat.le_refl _) (by omega) (by rw [l.1]; exact b4) r
    exact permIn_trans _ _ _ 0 b (permIn_trans _ _ _ 0 b (permIn_trans _ _ _ 0 b P3 h4') l) r'
  case case8 d a b limit wb wp h12 hl d1 c d2 pivot hint pi hpi2 d3 hc mid ap d4 hx hg =>
    intro hab hb
    have s1 : PermIn 0 b d d1 := break_any d hab hb _
    have b1 : b ≤ d1.size := by rw [s1.1]; exact hb
    have s2 : PermIn 0 b d1 d2 := reverse_any d1 hab b1 _
    have b2 : b ≤ d2.size := by rw [s2.1]; exact b1
    have s3 : PermIn 0 b d2 d3 := partial_any (lt := lt) d2 (a := a) (b := b) (by omega) b2 ((wb && wp && decide (hint = Hint.increasing)) = true)
    have b3 : b ≤ d3.size := by rw [s3.1]; exact b2
    have P3 : PermIn 0 b d d3 := permIn_trans _ _ _ 0 b (permIn_trans _ _ _ 0 b s1 s2) s3
    have hc0 := choosePivot_holds lt d1 a b (by omega)
    have hpv : a ≤ pivot ∧ pivot < b := pivot_range hc0.1 hc0.2 _
    have h4 := (partition_any (lt := lt) d3 a b pivot hpv.1 hpv.2 b3).2.2
    rw [hx] at h4
    exact permIn_trans _ _ _ 0 b P3 (permIn_mono _ _ a b 0 b (Nat.zero_le _) (Nat.le_refl _) b3 h4)

section
variable {α : Type} [Inhabited α] {lt : α → α → Bool}
/-! ### how each loop goes on, and stops -/
theorem insI_go (a j : Nat) (d : Array α) (hj : a < j + 1) (hl : lt d[j + 1]! d[j]! = true) : insInner lt a (j + 1) d = insInner lt a j (swp d (j + 1) j) := by
  rw [insInner, if_pos (by simp [hl]; omega)]
theorem insI_stop (a j : Nat) (d : Array α) (h : j ≤ a ∨ lt d[j]! d[j - 1]! = false) : insInner lt a j d = d := by
  cases j with
  | zero => rfl
  | succ j =>
    rw [insInner, if_neg]
    rintro h1
    simp only [Bool.and_eq_true, decide_eq_true_eq, Nat.add_sub_cancel] at h1 h
    rcases h with h | h
    · omega
    · rw [h] at h1; simp at h1
theorem insO_go (a b i : Nat) (d : Array α) (h : i < b) : insOuter lt a b i d = insOuter lt a b (i + 1) (insInner lt a i d) := by rw [insOuter, if_pos h]
theorem insO_stop (a b i : Nat) (d : Array α) (h : ¬ i < b) : insOuter lt a b i d = d := by rw [insOuter, if_neg h]
end
end Go.Proofs.YtglgmkikegbchaaGreat

/- swapRange, rotate, symMerge, stable as functions over an array; what swapRange and rotate leave; that all permute. No program in this text. -/
namespace Go.Proofs.YtglgmkikegbchaaGreat
open Go.Sort

variable {α : Type} [Inhabited α]

/-! ### swapRange, rotate -/
/-- 'for i := i; i < n; i++ { swap a+i, b+i }': k rounds are left, from i. -/
def swapLoop (a b : Nat) : Nat → Nat → Array α → Array α
  | 0, _, d => d
  | k + 1, i, d => swapLoop a b k (i + 1) (swp d (a + i) (b + i))
def swapRange (d : Array α) (a b n : Nat) : Array α := swapLoop a b n 0 d

/-- The loop of rotate, from (i, j). (Two guards that always hold: neither is 0.) -/
def rotLoop (m i j : Nat) (d : Array α) : Array α :=
  if i = j then swapRange d (m - i) m i
  else if j < i then (if _h : 0 < j then rotLoop m (i - j) j (swapRange d (m - i) m j) else d)
  else (if _h : 0 < i then rotLoop m i (j - i) (swapRange d (m - i) (m + j - i) i) else d)
termination_by i + j
decreasing_by all_goals omega
def rotate (d : Array α) (a m b : Nat) : Array α := rotLoop m (m - a) (b - m) d

theorem swp_at (d : Array α) {i j : Nat} (hi : i < d.size) (hj : j < d.size) (k : Nat) : (swp d i j)[k]! = if k = j then d[i]! else if k = i then d[j]! else d[k]! := by
  rw [swp_get d hi hj k]

theorem swapLoop_spec (a b : Nat) : ∀ (k i : Nat) (d : Array α), (a + i + k ≤ b + i ∨ b + i + k ≤ a + i) → a + i + k ≤ d.size → b + i + k ≤ d.size →
    (swapLoop a b k i d).size = d.size ∧ ∀ t, (swapLoop a b k i d)[t]! = if a + i ≤ t ∧ t < a + i + k then d[t - a + b]! else if b + i ≤ t ∧ t < b + i + k then d[t - b + a]! else d[t]!
  | 0, i, d, _, _, _ => ⟨rfl, fun t => by rw [swapLoop, if_neg (by omega), if_neg (by omega)]⟩
  | k + 1, i, d, h, ha, hb => by
    obtain ⟨s, g⟩ := swapLoop_spec a b k (i + 1) (swp d (a + i) (b + i)) (by omega) (by rw [size_swp]; omega) (by rw [size_swp]; omega)
    refine ⟨by rw [swapLoop, s, size_swp], fun t => ?_⟩
    rw [swapLoop, g t]
    have sw := swp_get d (i := a + i) (j := b + i) (by omega) (by omega)
    by_cases h1 : a + (i + 1) ≤ t ∧ t < a + (i + 1) + k
    · rw [if_pos h1, if_pos (by omega), sw, if_neg (by omega), if_neg (by omega)]
    · rw [if_neg h1]
      by_cases h2 : b + (i + 1) ≤ t ∧ t < b + (i + 1) + k
      · rw [if_pos h2, if_neg (by omega), if_pos (by omega), sw, if_neg (by omega), if_neg (by omega)]
      · rw [if_neg h2, sw]
        by_cases h4 : t = b + i
        · rw [if_pos h4, if_neg (by omega), if_pos (by omega), show t - b + a = a + i by omega]
        · rw [if_neg h4]
          by_cases h3 : t = a + i
          · rw [if_pos h3, if_pos (by omega), show t - a + b = b + i by omega]
          · rw [if_neg h3, if_neg (by omega), if_neg (by omega)]

theorem swapRange_spec (d : Array α) (a b n : Nat) (h : a + n ≤ b ∨ b + n ≤ a) (ha : a + n ≤ d.size) (hb : b + n ≤ d.size) :
    (swapRange d a b n).size = d.size ∧ ∀ t, (swapRange d a b n)[t]! = if a ≤ t ∧ t < a + n then d[t - a + b]! else if b ≤ t ∧ t < b + n then d[t - b + a]! else d[t]! := by
  have := swapLoop_spec a b n 0 d (by omega) (by omega) (by omega)
  simp only [Nat.add_zero] at this
  exact this

section
variable {lt : α → α → Bool}
theorem size_siftDown (hi first r : Nat) (d : Array α) (h : first + hi ≤ d.size) : (siftDown lt hi first r d).size = d.size :=
  (siftDown_perm first (first + hi) hi first (Nat.le_refl _) (Nat.le_refl _) _ r d (Nat.le_refl _) h).1
theorem sift_end (hi first r : Nat) (d : Array α) (h : hi ≤ 2 * r + 1) : siftDown lt hi first r d = d := by
  rw [siftDown, dif_pos h]
theorem sift_right_go (hi first r : Nat) (d : Array α) (h : 2 * r + 2 < hi) (h1 : lt d[first + (2 * r + 1)]! d[first + (2 * r + 1) + 1]! = true) (h2 : lt d[first + r]! d[first + (2 * r + 2)]! = true) : siftDown lt hi first r d = siftDown lt hi first (2 * r + 2) (swp d (first + r) (first + (2 * r + 2))) := by
  rw [siftDown, dif_neg (by omega), if_pos (by simp [h1]; omega), if_neg (by simp [h2]), dif_pos h]
theorem sift_right_stop (hi first r : Nat) (d : Array α) (h : 2 * r + 2 < hi) (h1 : lt d[first + (2 * r + 1)]! d[first + (2 * r + 1) + 1]! = true) (h2 : lt d[first + r]! d[first + (2 * r + 2)]! = false) : siftDown lt hi first r d = d := by
  rw [siftDown, dif_neg (by omega), if_pos (by simp [h1]; omega), if_pos (by simp [h2])]
theorem sift_left_go (hi first r : Nat) (d : Array α) (h : 2 * r + 1 < hi) (h1 : ¬ 2 * r + 2 < hi ∨ lt d[first + (2 * r + 1)]! d[first + (2 * r + 1) + 1]! = false) (h2 : lt d[first + r]! d[first + (2 * r + 1)]! = true) : siftDown lt hi first r d = siftDown lt hi first (2 * r + 1) (swp d (first + r) (first + (2 * r + 1))) := by
  rw [siftDown, dif_neg (by omega), if_neg (by rcases h1 with h1 | h1 <;> simp [h1] <;> omega), if_neg (by simp [h2])]
theorem sift_left_stop (hi first r : Nat) (d : Array α) (h : 2 * r + 1 < hi) (h1 : ¬ 2 * r + 2 < hi ∨ lt d[first + (2 * r + 1)]! d[first + (2 * r + 1) + 1]! = false) (h2 : lt d[first + r]! d[first + (2 * r + 1)]! = false) : siftDown lt hi first r d = d := by
  rw [siftDown, dif_neg (by omega), if_neg (by rcases h1 with h1 | h1 <;> simp [h1] <;> omega), if_pos (by simp [h2])]
end
theorem size_swapLoop (a b : Nat) : ∀ (k i : Nat) (d : Array α), (swapLoop a b k i d).size = d.size
  | 0, _, _ => rfl
  | k + 1, i, d => by rw [swapLoop, size_swapLoop a b k, size_swp]
theorem size_swapRange (d : Array α) (a b c : Nat) : (swapRange d a b c).size = d.size := size_swapLoop a b c 0 d
theorem rot_more (m i j : Nat) (d : Array α) (h : j < i) (h0 : 0 < j) : rotLoop m i j d = rotLoop m (i - j) j (swapRange d (m - i) m j) := by
  rw [rotLoop, if_neg (by omega), if_pos h, dif_pos h0]
theorem rot_less (m i j : Nat) (d : Array α) (h : i < j) (h0 : 0 < i) : rotLoop m i j d = rotLoop m i (j - i) (swapRange d (m - i) (m + j - i) i) := by
  rw [rotLoop, if_neg (by omega), if_neg (by omega), dif_pos h0]
theorem rot_stop (m i : Nat) (d : Array α) : rotLoop m i i d = swapRange d (m - i) m i := by
  rw [rotLoop, if_pos rfl]

theorem swapLoop_go (a b c i : Nat) (d : Array α) (h : i < c) : swapLoop a b (c - i) i d = swapLoop a b (c - (i + 1)) (i + 1) (swp d (a + i) (b + i)) := by
  rw [show c - i = (c - (i + 1)) + 1 by omega, swapLoop]
theorem swapLoop_stop (a b c i : Nat) (d : Array α) (h : ¬ i < c) : swapLoop a b (c - i) i d = d := by
  rw [show c - i = 0 by omega, swapLoop]

theorem swapLoop_perm (lo hi a b : Nat) : ∀ (k i : Nat) (d : Array α), lo ≤ a + i → lo ≤ b + i → a + i + k ≤ hi → b + i + k ≤ hi → hi ≤ d.size → PermIn lo hi d (swapLoop a b k i d)
  | 0, i, d, _, _, _, _, _ => permIn_refl d lo hi
  | k + 1, i, d, h1, h2, h3, h4, h5 => by
    rw [swapLoop]
    exact permIn_trans _ _ _ _ _ (swp_permIn d lo hi (a + i) (b + i) h1 (by omega) h2 (by omega) h5) (swapLoop_perm lo hi a b k (i + 1) _ (by omega) (by omega) (by omega) (by omega) (by rw [size_swp]; exact h5))

theorem swapRange_perm (lo hi : Nat) (d : Array α) (a b n : Nat) (h1 : lo ≤ a) (h2 : lo ≤ b) (h3 : a + n ≤ hi) (h4 : b + n ≤ hi) (h5 : hi ≤ d.size) : PermIn lo hi d (swapRange d a b n) :=
  swapLoop_perm lo hi a b n 0 d (by omega) (by omega) (by omega) (by omega) h5

/-- What rotate leaves: the two neighbours [p, m), [m, q) have changed places. -/
def Rotated (p m q : Nat) (d d' : Array α) : Prop :=
  d'.size = d.size ∧ ∀ t, d'[t]! = if p ≤ t ∧ t < p + (q - m) then d[t - p + m]! else if p + (q - m) ≤ t ∧ t < q then d[t - (q - m)]! else d[t]!

theorem rotLoop_spec (m : Nat) : ∀ (n i j : Nat) (d : Array α), i + j ≤ n → 0 < i → 0 < j → i ≤ m → m + j ≤ d.size →
    Rotated (m - i) m (m + j) d (rotLoop m i j d) ∧ PermIn (m - i) (m + j) d (rotLoop m i j d) := by
  intro n
  induction n with
  | zero => intro i j d h h1 h2; omega
  | succ n ih =>
    intro i j d h hi hj him hmj
    rw [rotLoop]
    split
    · rename_i e
      subst e
      obtain ⟨s, g⟩ := swapRange_spec d (m - i) m i (by omega) (by omega) hmj
      refine ⟨⟨s, fun t => ?_⟩, swapRange_perm _ _ d _ _ _ (Nat.le_refl _) (by omega) (by omega) (Nat.le_refl _) hmj⟩
      rw [g]
      repeat' split
      all_goals first | omega | (congr 1; omega) | rfl
    · rename_i hne
      split
      · rename_i hji
        obtain ⟨s, g⟩ := swapRange_spec d (m - i) m j (by omega) (by omega) (by omega)
        have P := swapRange_perm (m - i) (m + j) d (m - i) m j (Nat.le_refl _) (by omega) (by omega) (by omega) (by omega)
        obtain ⟨⟨s2, g2⟩, P2⟩ := ih (i - j) j (swapRange d (m - i) m j) (by omega) (by omega) hj (by omega) (by rw [s]; exact hmj)
        refine ⟨⟨by rw [s2, s], fun t => ?_⟩, permIn_trans _ _ _ _ _ P (permIn_mono _ _ (m - (i - j)) (m + j) _ _ (by omega) (Nat.le_refl _) (by rw [s]; exact hmj) P2)⟩
        rw [g2, g, g, g]
        repeat' split
        all_goals first | omega | (congr 1; omega) | rfl
      · rename_i hji
        obtain ⟨s, g⟩ := swapRange_spec d (m - i) (m + j - i) i (by omega) (by omega) (by omega)
        have P := swapRange_perm (m - i) (m + j) d (m - i) (m + j - i) i (Nat.le_refl _) (by omega) (by omega) (by omega) (by omega)
        obtain ⟨⟨s2, g2⟩, P2⟩ := ih i (j - i) (swapRange d (m - i) (m + j - i) i) (by omega) hi (by omega) him (by rw [s]; omega)
        refine ⟨⟨by rw [s2, s], fun t => ?_⟩, permIn_trans _ _ _ _ _ P (permIn_mono _ _ (m - i) (m + (j - i)) _ _ (Nat.le_refl _) (by omega) (by rw [s]; omega) P2)⟩
        rw [g2, g, g, g]
        repeat' split
        all_goals first | omega | (congr 1; omega) | rfl

theorem rotate_spec (d : Array α) (a m b : Nat) (h1 : a < m) (h2 : m < b) (hb : b ≤ d.size) : Rotated a m b d (rotate d a m b) ∧ PermIn a b d (rotate d a m b) := by
  have := rotLoop_spec m _ (m - a) (b - m) d (Nat.le_refl _) (by omega) (by omega) (by omega) (by omega)
  rwa [show m - (m - a) = a by omega, show m + (b - m) = b by omega] at this


/-! ### binary search -/
/-- 'for i < j { h := (i+j)/2; if p(h) { i = h+1 } else { j = h } }' -/
def bsearch (p : Nat → Bool) (i j : Nat) : Nat :=
  if _h : i < j then (if p ((i + j) / 2) then bsearch p ((i + j) / 2 + 1) j else bsearch p i ((i + j) / 2)) else i
termination_by j - i
decreasing_by all_goals omega

theorem bsearch_range (p : Nat → Bool) : ∀ (n i j : Nat), j - i ≤ n → i ≤ j → i ≤ bsearch p i j ∧ bsearch p i j ≤ j := by
  intro n
  induction n with
  | zero => intro i j h hij; rw [bsearch, dif_neg (by omega)]; omega
  | succ n ih =>
    intro i j h hij
    rw [bsearch]
    split
    · split
      · have := ih ((i + j) / 2 + 1) j (by omega) (by omega); omega
      · have := ih i ((i + j) / 2) (by omega) (by omega); omega
    · omega

theorem bsearch_edge (p : Nat → Bool) (lo hi : Nat) : ∀ (n i j : Nat), j - i ≤ n → i ≤ j → (i = lo ∨ p (i - 1) = true) → (j = hi ∨ p j = false) →
    (bsearch p i j = lo ∨ p (bsearch p i j - 1) = true) ∧ (bsearch p i j = hi ∨ p (bsearch p i j) = false) := by
  intro n
  induction n with
  | zero =>
    intro i j h hij hl hr
    have e : i = j := by omega
    subst e
    have e2 : bsearch p i i = i := by rw [bsearch, dif_neg (by omega)]
    rw [e2]
    exact ⟨hl, hr⟩
  | succ n ih =>
    intro i j h hij hl hr
    rw [bsearch]
    split
    · split
      · rename_i hp
        exact ih ((i + j) / 2 + 1) j (by omega) (by omega) (Or.inr (by rw [Nat.add_sub_cancel]; exact hp)) hr
      · rename_i hp
        exact ih i ((i + j) / 2) (by omega) (by omega) hl (Or.inr (by simpa using hp))
    · obtain rfl : i = j := by omega
      exact ⟨hl, hr⟩

theorem bsearch_spec (p : Nat → Bool) (lo hi : Nat) (h : lo ≤ hi) :
    lo ≤ bsearch p lo hi ∧ bsearch p lo hi ≤ hi ∧ (bsearch p lo hi = lo ∨ p (bsearch p lo hi - 1) = true) ∧ (bsearch p lo hi = hi ∨ p (bsearch p lo hi) = false) := by
  have a := bsearch_range p _ lo hi (Nat.le_refl _) h
  have b := bsearch_edge p lo hi _ lo hi (Nat.le_refl _) h (Or.inl rfl) (Or.inl rfl)
  exact ⟨a.1, a.2, b.1, b.2⟩

/-! ### the two moves of symMerge -/
/-- 'for k := k; k < e; k++ { swap k, k+1 }': n rounds are left. -/
def upLoop : Nat → Nat → Array α → Array α
  | 0, _, d => d
  | n + 1, k, d => upLoop n (k + 1) (swp d k (k + 1))
/-- 'for k := k; k > i; k-- { swap k, k-1 }': n rounds are left. -/
def downLoop : Nat → Nat → Array α → Array α
  | 0, _, d => d
  | n + 1, k, d => downLoop n (k - 1) (swp d k (k - 1))

section
variable (lt : α → α → Bool)
/-- symMerge. (The guard 'mid < b' always holds.) -/
def symMerge (d : Array α) (a m b : Nat) : Array α :=
  if m - a = 1 then upLoop (bsearch (fun h => lt d[h]! d[a]!) m b - 1 - a) a d
  else if b - m = 1 then downLoop (m - bsearch (fun h => !lt d[m]! d[h]!) a m) m d
  else
    let mid := (a + b) / 2
    let n := mid + m
    let s0 := if m > mid then n - b else a
    let r0 := if m > mid then mid else m
    let st := bsearch (fun c => !lt d[n - 1 - c]! d[c]!) s0 r0
    let e := n - st
    let d1 := if st < m ∧ m < e then rotate d st m e else d
    let d2 := if _h : (a < st ∧ st < mid) ∧ mid < b then symMerge d1 a st mid else d1
    if _h : (mid < e ∧ e < b) ∧ a < mid then symMerge d2 mid e b else d2
termination_by b - a
decreasing_by all_goals omega

/-- 'for b <= n { insertionSort(a, b); a = b; b += s }', then insertionSort(a, n); b is a + s. -/
def insBlocks (s n a : Nat) (d : Array α) : Array α :=
  if _h : a + s ≤ n ∧ 0 < s then insBlocks s n (a + s) (insertionSort lt d a (a + s)) else insertionSort lt d a n
termination_by n - a
decreasing_by omega

/-- One pass of merging blocks of s elements. -/
def mergePass (s n a : Nat) (d : Array α) : Array α :=
  if _h : a + 2 * s ≤ n ∧ 0 < s then mergePass s n (a + 2 * s) (symMerge lt d a (a + s) (a + 2 * s))
  else if a + s < n then symMerge lt d a (a + s) n else d
termination_by n - a
decreasing_by omega

def stableLoop (n s : Nat) (d : Array α) : Array α :=
  if _h : s < n ∧ 0 < s then stableLoop n (s * 2) (mergePass lt s n 0 d) else d
termination_by n - s
decreasing_by omega

def stable (d : Array α) (n : Nat) : Array α := stableLoop lt n 20 (insBlocks lt 20 n 0 d)
end

theorem upLoop_spec (q : Nat) : ∀ (n k : Nat) (d : Array α), k + n + 1 = q → q ≤ d.size → Rotated k (k + 1) q d (upLoop n k d) ∧ PermIn k q d (upLoop n k d)
  | 0, k, d, h, hq => by
    refine ⟨⟨rfl, fun t => ?_⟩, permIn_refl d _ _⟩
    rw [upLoop]
    repeat' split
    all_goals first | omega | (congr 1; omega) | rfl
  | n + 1, k, d, h, hq => by
    obtain ⟨⟨s, g⟩, P⟩ := upLoop_spec q n (k + 1) (swp d k (k + 1)) (by omega) (by rw [size_swp]; exact hq)
    have sw := swp_get d (i := k) (j := k + 1) (by omega) (by omega)
    rw [upLoop]
    refine ⟨⟨by rw [s, size_swp], fun t => ?_⟩, permIn_trans _ _ _ _ _ (swp_permIn d k q k (k + 1) (by omega) (by omega) (by omega) (by omega) hq) (permIn_mono _ _ (k + 1) q _ _ (by omega) (Nat.le_refl _) (by rw [size_swp]; exact hq) P)⟩
    rw [g, sw, sw, sw]
    repeat' split
    all_goals first | omega | (congr 1; omega) | rfl

theorem downLoop_spec (q : Nat) : ∀ (n k : Nat) (d : Array α), n ≤ k → k < d.size → k + 1 = q → Rotated (k - n) k q d (downLoop n k d) ∧ PermIn (k - n) q d (downLoop n k d)
  | 0, k, d, _, hk, hq => by
    refine ⟨⟨rfl, fun t => ?_⟩, permIn_refl d _ _⟩
    rw [downLoop]
    repeat' split
    all_goals first | omega | (congr 1; omega) | rfl
  | n + 1, k, d, hn, hk, hq => by
    obtain ⟨⟨s, g⟩, P⟩ := downLoop_spec k n (k - 1) (swp d k (k - 1)) (by omega) (by rw [size_swp]; omega) (by omega)
    have sw := swp_get d (i := k) (j := k - 1) (by omega) (by omega)
    rw [downLoop]
    refine ⟨⟨by rw [s, size_swp], fun t => ?_⟩, permIn_trans _ _ _ _ _ (swp_permIn d (k - (n + 1)) q k (k - 1) (by omega) (by omega) (by omega) (by omega) (by omega)) (permIn_mono _ _ (k - 1 - n) k _ _ (by omega) (by omega) (by rw [size_swp]; omega) P)⟩
    rw [g, sw, sw, sw]
    repeat' split
    all_goals first | omega | (congr 1; omega) | rfl

/-- symMerge, whatever comes of comparing. -/
theorem symMerge_perm (lt : α → α → Bool) : ∀ (N a m b : Nat) (d : Array α), b - a ≤ N → a < m → m < b → b ≤ d.size → PermIn a b d (symMerge lt d a m b) := by
  intro N
  induction N with
  | zero => intro a m b d h h1 h2; omega
  | succ N ih =>
    intro a m b d h h1 h2 hb
    rw [symMerge]
    split
    · have r := bsearch_range (fun h => lt d[h]! d[a]!) _ m b (Nat.le_refl _) (by omega)
      generalize bsearch (fun h => lt d[h]! d[a]!) m b = i at r ⊢
      have := (upLoop_spec i (i - 1 - a) a d (by omega) (by omega)).2
      exact permIn_mono _ _ a i a b (Nat.le_refl _) (by omega) hb this
    · split
      · have r := bsearch_range (fun h => !lt d[m]! d[h]!) _ a m (Nat.le_refl _) (by omega)
        generalize bsearch (fun h => !lt d[m]! d[h]!) a m = i at r ⊢
        have := (downLoop_spec (m + 1) (m - i) m d (by omega) (by omega) rfl).2
        exact permIn_mono _ _ (m - (m - i)) (m + 1) a b (by omega) (by omega) hb this
      · dsimp only
        have hs : (if m > (a + b) / 2 then (a + b) / 2 + m - b else a) ≤ (if m > (a + b) / 2 then (a + b) / 2 else m) := by split <;> omega
        have r := bsearch_range (fun c => !lt d[(a + b) / 2 + m - 1 - c]! d[c]!) _ _ _ (Nat.le_refl _) hs
        generalize bsearch (fun c => !lt d[(a + b) / 2 + m - 1 - c]! d[c]!) _ _ = st at r ⊢
        have r1 : a ≤ st ∧ st ≤ m ∧ st ≤ (a + b) / 2 ∧ (a + b) / 2 + m - st ≤ b := by
          split at r <;> omega
        have P1 : PermIn a b d (if st < m ∧ m < (a + b) / 2 + m - st then rotate d st m ((a + b) / 2 + m - st) else d) := by
          split
          · exact permIn_mono _ _ st ((a + b) / 2 + m - st) a b (by omega) (by omega) hb (rotate_spec d st m _ (by omega) (by omega) (by omega)).2
          · exact permIn_refl d _ _
        generalize (if st < m ∧ m < (a + b) / 2 + m - st then rotate d st m ((a + b) / 2 + m - st) else d) = d1 at P1 ⊢
        have b1 : b ≤ d1.size := by rw [P1.1]; exact hb
        have P2 : PermIn a b d1 (if _h : (a < st ∧ st < (a + b) / 2) ∧ (a + b) / 2 < b then symMerge lt d1 a st ((a + b) / 2) else d1) := by
          split
          · exact permIn_mono _ _ a ((a + b) / 2) a b (Nat.le_refl _) (by omega) b1 (ih a st ((a + b) / 2) d1 (by omega) (by omega) (by omega) (by omega))
          · exact permIn_refl d1 _ _
        generalize (if _h : (a < st ∧ st < (a + b) / 2) ∧ (a + b) / 2 < b then symMerge lt d1 a st ((a + b) / 2) else d1) = d2 at P2 ⊢
        have b2 : b ≤ d2.size := by rw [P2.1]; exact b1
        have P3 : PermIn a b d2 (if _h : ((a + b) / 2 < (a + b) / 2 + m - st ∧ (a + b) / 2 + m - st < b) ∧ a < (a + b) / 2 then symMerge lt d2 ((a + b) / 2) ((a + b) / 2 + m - st) b else d2) := by
          split
          · exact permIn_mono _ _ ((a + b) / 2) b a b (by omega) (Nat.le_refl _) b2 (ih _ _ b d2 (by omega) (by omega) (by omega) b2)
          · exact permIn_refl d2 _ _
        exact permIn_trans _ _ _ _ _ (permIn_trans _ _ _ _ _ P1 P2) P3

theorem insBlocks_perm (lt : α → α → Bool) (s n : Nat) : ∀ (N a : Nat) (d : Array α), n - a ≤ N → n ≤ d.size → (∀ (d : Array α) (a b : Nat), b ≤ d.size → PermIn a b d (insertionSort lt d a b)) → PermIn 0 n d (insBlocks lt s n a d) := by
  intro N
  induction N with
  | zero =>
    intro a d h hn hi
    rw [insBlocks, dif_neg (by omega)]
    by_cases ha : a ≤ n
    · exact permIn_mono _ _ a n 0 n (Nat.zero_le _) (Nat.le_refl _) hn (hi d a n hn)
    · rw [insertionSort, insOuter, if_neg (by omega)]; exact permIn_refl d _ _
  | succ N ih =>
    intro a d h hn hi
    rw [insBlocks]
    split
    · have p := permIn_mono _ _ a (a + s) 0 n (Nat.zero_le _) (by omega) hn (hi d a (a + s) (by omega))
      exact permIn_trans _ _ _ _ _ p (ih (a + s) _ (by omega) (by rw [p.1]; exact hn) hi)
    · by_cases ha : a ≤ n
      · exact permIn_mono _ _ a n 0 n (Nat.zero_le _) (Nat.le_refl _) hn (hi d a n hn)
      · rw [insertionSort, insOuter, if_neg (by omega)]; exact permIn_refl d _ _

theorem mergePass_perm (lt : α → α → Bool) (s n : Nat) : ∀ (N a : Nat) (d : Array α), n - a ≤ N → 0 < s → n ≤ d.size → PermIn 0 n d (mergePass lt s n a d) := by
  intro N
  induction N with
  | zero =>
    intro a d h hs hn
    rw [mergePass, dif_neg (by omega), if_neg (by omega)]
    exact permIn_refl d _ _
  | succ N ih =>
    intro a d h hs hn
    rw [mergePass]
    split
    · have p := permIn_mono _ _ a (a + 2 * s) 0 n (Nat.zero_le _) (by omega) hn (symMerge_perm lt _ a (a + s) (a + 2 * s) d (Nat.le_refl _) (by omega) (by omega) (by omega))
      exact permIn_trans _ _ _ _ _ p (ih (a + 2 * s) _ (by omega) hs (by rw [p.1]; exact hn))
    · split
      · exact permIn_mono _ _ a n 0 n (Nat.zero_le _) (Nat.le_refl _) hn (symMerge_perm lt _ a (a + s) n d (Nat.le_refl _) (by omega) (by omega) hn)
      · exact permIn_refl d _ _

theorem stableLoop_perm (lt : α → α → Bool) (n : Nat) : ∀ (N s : Nat) (d : Array α), n - s ≤ N → n ≤ d.size → PermIn 0 n d (stableLoop lt n s d) := by
  intro N
  induction N with
  | zero => intro s d h hn; rw [stableLoop, dif_neg (by omega)]; exact permIn_refl d _ _
  | succ N ih =>
    intro s d h hn
    rw [stableLoop]
    split
    · rename_i hs
      have p := mergePass_perm lt s n _ 0 d (Nat.le_refl _) hs.2 hn
      exact permIn_trans _ _ _ _ _ p (ih (s * 2) _ (by omega) (by rw [p.1]; exact hn))
    · exact permIn_refl d _ _
end Go.Proofs.YtglgmkikegbchaaGreat

/- symMerge merges two sorted neighbours and leaves those that are alike as they stood. No program in this text. -/
namespace Go.Proofs.YtglgmkikegbchaaGreat
open Go.Sort

variable {α : Type} [Inhabited α]

/-- The elements of a part, as a list. -/
def seg (d : Array α) (a b : Nat) : List α := (List.range' a (b - a)).map (fun i => d[i]!)

theorem seg_length (d : Array α) (a b : Nat) : (seg d a b).length = b - a := by simp [seg]
theorem seg_get (d : Array α) (a b k : Nat) (h : k < (seg d a b).length) : (seg d a b)[k] = d[a + k]! := by
  simp [seg]
theorem seg_append (d : Array α) {a m b : Nat} (h1 : a ≤ m) (h2 : m ≤ b) : seg d a b = seg d a m ++ seg d m b := by
  unfold seg
  rw [← List.map_append]
  congr 1
  obtain ⟨x, rfl⟩ : ∃ x, m = a + x := ⟨m - a, by omega⟩
  rw [show b - a = x + (b - (a + x)) by omega, show a + x - a = x by omega, ← List.range'_append_1]
theorem seg_congr {d d' : Array α} {a b : Nat} (h : ∀ i, a ≤ i → i < b → d'[i]! = d[i]!) : seg d' a b = seg d a b := by
  unfold seg
  refine List.map_congr_left fun i hi => ?_
  rw [List.mem_range'_1] at hi
  exact h i hi.1 (by omega)
theorem mem_seg {d : Array α} {a b : Nat} {x : α} : x ∈ seg d a b ↔ ∃ i, a ≤ i ∧ i < b ∧ d[i]! = x := by
  unfold seg
  simp only [List.mem_map, List.mem_range'_1]
  exact ⟨fun ⟨i, h1, h2⟩ => ⟨i, h1.1, by omega, h2⟩, fun ⟨i, h1, h2, h3⟩ => ⟨i, ⟨h1, by omega⟩, h3⟩⟩
theorem seg_shift (d d' : Array α) (a a' n : Nat) (h : ∀ i, i < n → d'[a' + i]! = d[a + i]!) : seg d' a' (a' + n) = seg d a (a + n) := by
  refine List.ext_getElem (by simp [seg]) fun k h1 h2 => ?_
  rw [seg_get, seg_get]
  rw [seg_length] at h1
  exact h k (by omega)
theorem extract_seg (d : Array α) (a b : Nat) (hb : b ≤ d.size) : (d.extract a b).toList = seg d a b := extract_toList d a b hb

theorem Rotated.seg {p m q : Nat} {d d' : Array α} (h : Rotated p m q d d') (h1 : p ≤ m) (h2 : m ≤ q) : seg d' p q = Go.Proofs.YtglgmkikegbchaaGreat.seg d m q ++ Go.Proofs.YtglgmkikegbchaaGreat.seg d p m := by
  obtain ⟨_, g⟩ := h
  rw [seg_append d' (show p ≤ p + (q - m) by omega) (show p + (q - m) ≤ q by omega)]
  congr 1
  · have := seg_shift d d' m p (q - m) (fun i hi => by rw [g, if_pos (by omega)]; congr 1; omega)
    rw [this, show m + (q - m) = q by omega]
  · have := seg_shift d d' p (p + (q - m)) (m - p) (fun i hi => by rw [g, if_neg (by omega), if_pos (by omega)]; congr 1; omega)
    rw [show p + (q - m) + (m - p) = q by omega, show p + (m - p) = m by omega] at this
    exact this

section
variable (μ : α → Int)
/-- The order by a measure. -/
def ltBy : α → α → Bool := fun x y => decide (μ x < μ y)
omit [Inhabited α] in
theorem swo_ltBy : SWO (ltBy μ) where
  irrefl x := by simp [ltBy]
  trans x y z := by simp only [ltBy, decide_eq_true_eq]; omega
  ntrans x y z := by simp only [ltBy, decide_eq_false_iff_not]; omega

/-- Those that are alike. -/
def fil (v : Int) (l : List α) : List α := l.filter (fun x => decide (μ x = v))
omit [Inhabited α] in
theorem fil_append (v : Int) (l k : List α) : fil μ v (l ++ k) = fil μ v l ++ fil μ v k := List.filter_append ..
omit [Inhabited α] in
theorem fil_nil_of {v : Int} {l : List α} (h : ∀ x ∈ l, μ x ≠ v) : fil μ v l = [] := by
  unfold fil
  rw [List.filter_eq_nil_iff]
  intro x hx
  simpa using h x hx
omit [Inhabited α] in
theorem fil_swap {U V : List α} (h : ∀ x ∈ U, ∀ y ∈ V, μ y < μ x) (v : Int) : fil μ v (V ++ U) = fil μ v (U ++ V) := by
  rw [fil_append, fil_append]
  by_cases hx : ∃ x ∈ U, μ x = v
  · obtain ⟨x, hx, e⟩ := hx
    have : fil μ v V = [] := fil_nil_of μ fun y hy => by have := h x hx y hy; omega
    rw [this]; simp
  · have : fil μ v U = [] := fil_nil_of μ fun x hx' e => hx ⟨x, hx', e⟩
    rw [this]; simp

/-- d' is d with the part in the order, those that are alike as they stood. -/
def StableIn (a b : Nat) (d d' : Array α) : Prop := PermIn a b d d' ∧ SortedIn (ltBy μ) a b d' ∧ ∀ v, fil μ v (seg d' a b) = fil μ v (seg d a b)

variable {μ}
theorem sortedBy {a b : Nat} {d : Array α} : SortedIn (ltBy μ) a b d ↔ ∀ i j, a ≤ i → i < j → j < b → μ d[i]! ≤ μ d[j]! := by
  unfold SortedIn ltBy
  simp only [decide_eq_false_iff_not, Int.not_lt]

theorem sortedBy_le {a b : Nat} {d : Array α} (h : SortedIn (ltBy μ) a b d) {i j : Nat} (h1 : a ≤ i) (h2 : i ≤ j) (h3 : j < b) : μ d[i]! ≤ μ d[j]! := by
  rcases Nat.lt_or_ge i j with e | e
  · exact sortedBy.1 h i j h1 e h3
  · obtain rfl : i = j := by omega
    exact Int.le_refl _

theorem StableIn.refl {a b : Nat} {d : Array α} (h : SortedIn (ltBy μ) a b d) : StableIn μ a b d d := ⟨permIn_refl d a b, h, fun _ => rfl⟩

/-- A block that stands ahead of all that it jumps over. -/
theorem rotated_fil {p m q : Nat} {d d' : Array α} (h : Rotated p m q d d') (h1 : p ≤ m) (h2 : m ≤ q)
    (hlt : ∀ i j, p ≤ i → i < m → m ≤ j → j < q → μ d[j]! < μ d[i]!) (v : Int) : fil μ v (seg d' p q) = fil μ v (seg d p q) := by
  rw [h.seg h1 h2, seg_append d h1 h2]
  refine fil_swap μ (fun x hx y hy => ?_) v
  obtain ⟨i, i1, i2, rfl⟩ := mem_seg.1 hx
  obtain ⟨j, j1, j2, rfl⟩ := mem_seg.1 hy
  exact hlt i j i1 i2 j1 j2

/-- A change of a part within a greater one. -/
theorem fil_within {a p q b : Nat} {d d' : Array α} (h1 : a ≤ p) (h2 : p ≤ q) (h3 : q ≤ b) (hout : ∀ i, i < p ∨ q ≤ i → d'[i]! = d[i]!) (v : Int)
    (h : fil μ v (seg d' p q) = fil μ v (seg d p q)) : fil μ v (seg d' a b) = fil μ v (seg d a b) := by
  rw [seg_append d' h1 (by omega : p ≤ b), seg_append d' h2 h3, seg_append d h1 (by omega : p ≤ b), seg_append d h2 h3]
  simp only [fil_append, h]
  rw [seg_congr (d := d) (d' := d') (a := a) (b := p) (fun i _ hi => hout i (Or.inl hi)), seg_congr (d := d) (d' := d') (a := q) (b := b) (fun i hi _ => hout i (Or.inr hi))]

theorem symMerge_stable : ∀ (N a m b : Nat) (d : Array α), b - a ≤ N → a < m → m < b → b ≤ d.size → SortedIn (ltBy μ) a m d → SortedIn (ltBy μ) m b d →
    StableIn μ a b d (symMerge (ltBy μ) d a m b) := by
  intro N
  induction N with
  | zero => intro a m b d h h1 h2; omega
  | succ N ih =>
    intro a m b d h h1 h2 hb sl sr
    have PP := symMerge_perm (ltBy μ) _ a m b d (Nat.le_refl _) h1 h2 hb
    refine ⟨PP, ?_⟩
    clear PP
    rw [symMerge]
    split
    · -- one element on the left
      rename_i hm1
      obtain ⟨r1, r2, e1, e2⟩ := bsearch_spec (fun h => ltBy μ d[h]! d[a]!) m b (by omega)
      generalize bsearch (fun h => ltBy μ d[h]! d[a]!) m b = i at *
      have lo : ∀ t, m ≤ t → t < i → μ d[t]! < μ d[a]! := fun t t1 t2 => by
        rcases e1 with e | e
        · omega
        · simp only [ltBy, decide_eq_true_eq] at e
          have := sortedBy_le sr t1 (show t ≤ i - 1 by omega) (by omega)
          omega
      have hi' : ∀ t, i ≤ t → t < b → μ d[a]! ≤ μ d[t]! := fun t t1 t2 => by
        rcases e2 with e | e
        · omega
        · simp only [ltBy, decide_eq_false_iff_not, Int.not_lt] at e
          have := sortedBy_le sr (show m ≤ i by omega) t1 t2
          omega
      obtain ⟨R, P⟩ := upLoop_spec i (i - 1 - a) a d (by omega) (by omega)
      generalize upLoop (i - 1 - a) a d = d' at R P ⊢
      have g := R.2
      refine ⟨sortedBy.2 fun x y x1 x2 x3 => ?_, fun v => ?_⟩
      · -- the value at a place
        have at1 : ∀ t, a ≤ t → t < i - 1 → d'[t]! = d[t + 1]! := fun t t1 t2 => by rw [g, if_pos (by omega)]; congr 1; omega
        have at2 : d'[i - 1]! = d[a]! := by
          rw [g, if_neg (by omega), if_pos (by omega)]; congr 1; omega
        have at3 : ∀ t, i ≤ t → d'[t]! = d[t]! := fun t t1 => by rw [g, if_neg (by omega), if_neg (by omega)]
        by_cases c1 : x < i - 1
        · rw [at1 x x1 c1]
          by_cases c2 : y < i - 1
          · rw [at1 y (by omega) c2]; exact sortedBy_le sr (by omega) (by omega) (by omega)
          · by_cases c3 : y = i - 1
            · rw [c3, at2]; have := lo (x + 1) (by omega) (by omega); omega
            · rw [at3 y (by omega)]; exact sortedBy_le sr (by omega) (by omega) (by omega)
        · by_cases c3 : x = i - 1
          · rw [c3, at2, at3 y (by omega)]; exact hi' y (by omega) x3
          · rw [at3 x (by omega), at3 y (by omega)]; exact sortedBy_le sr (by omega) (by omega) (by omega)
      · refine fil_within (p := a) (q := i) (Nat.le_refl _) (by omega) (by omega) P.2.1 v (rotated_fil R (by omega) (by omega) (fun x y x1 x2 y1 y2 => ?_) v)
        obtain rfl : x = a := by omega
        exact lo y (by omega) y2
    · rename_i hm1
      split
      · -- one element on the right
        rename_i hb1
        obtain ⟨r1, r2, e1, e2⟩ := bsearch_spec (fun h => !ltBy μ d[m]! d[h]!) a m (by omega)
        generalize bsearch (fun h => !ltBy μ d[m]! d[h]!) a m = i at *
        have lo : ∀ t, a ≤ t → t < i → μ d[t]! ≤ μ d[m]! := fun t t1 t2 => by
          rcases e1 with e | e
          · omega
          · simp only [ltBy, Bool.not_eq_true', decide_eq_false_iff_not, Int.not_lt] at e
            have := sortedBy_le sl t1 (show t ≤ i - 1 by omega) (by omega)
            omega
        have hi' : ∀ t, i ≤ t → t < m → μ d[m]! < μ d[t]! := fun t t1 t2 => by
          rcases e2 with e | e
          · omega
          · simp only [ltBy, Bool.not_eq_false', decide_eq_true_eq] at e
            have := sortedBy_le sl (show a ≤ i by omega) t1 t2
            omega
        obtain ⟨R, P⟩ := downLoop_spec (m + 1) (m - i) m d (by omega) (by omega) rfl
        rw [show m - (m - i) = i by omega] at R P
        generalize downLoop (m - i) m d = d' at R P ⊢
        have g := R.2
        refine ⟨sortedBy.2 fun x y x1 x2 x3 => ?_, fun v => ?_⟩
        · have at1 : ∀ t, t < i → d'[t]! = d[t]! := fun t t1 => by rw [g, if_neg (by omega), if_neg (by omega)]
          have at2 : d'[i]! = d[m]! := by rw [g, if_pos (by omega)]; congr 1; omega
          have at3 : ∀ t, i < t → t < b → d'[t]! = d[t - 1]! := fun t t1 t2 => by rw [g, if_neg (by omega), if_pos (by omega)]; congr 1; omega
          by_cases c1 : x < i
          · rw [at1 x c1]
            by_cases c2 : y < i
            · rw [at1 y c2]; exact sortedBy_le sl (by omega) (by omega) (by omega)
            · by_cases c3 : y = i
              · rw [c3, at2]; exact lo x (by omega) c1
              · rw [at3 y (by omega) x3]; exact sortedBy_le sl (by omega) (by omega) (by omega)
          · by_cases c3 : x = i
            · rw [c3, at2, at3 y (by omega) x3]
              have := hi' (y - 1) (by omega) (by omega); omega
            · rw [at3 x (by omega) (by omega), at3 y (by omega) x3]; exact sortedBy_le sl (by omega) (by omega) (by omega)
        · refine fil_within (p := i) (q := m + 1) (by omega) (by omega) (by omega) P.2.1 v (rotated_fil R (by omega) (by omega) (fun x y x1 x2 y1 y2 => ?_) v)
          obtain rfl : y = m := by omega
          exact hi' x x1 x2
      · rename_i hb1
        dsimp only
        have hs : (if m > (a + b) / 2 then (a + b) / 2 + m - b else a) ≤ (if m > (a + b) / 2 then (a + b) / 2 else m) := by split <;> omega
        obtain ⟨r0, r0', e1, e2⟩ := bsearch_spec (fun c => !ltBy μ d[(a + b) / 2 + m - 1 - c]! d[c]!) _ _ hs
        generalize bsearch (fun c => !ltBy μ d[(a + b) / 2 + m - 1 - c]! d[c]!) _ _ = st at *
        have r1 : a ≤ st ∧ st ≤ m ∧ st ≤ (a + b) / 2 ∧ m ≤ (a + b) / 2 + m - st ∧ (a + b) / 2 + m - st ≤ b ∧ (a + b) / 2 ≤ (a + b) / 2 + m - st ∧ a < (a + b) / 2 ∧ (a + b) / 2 < b := by
          split at r0 <;> split at r0' <;> omega
        generalize hmid : (a + b) / 2 = mid at *
        obtain ⟨e, he⟩ : ∃ q, q = mid + m - st := ⟨_, rfl⟩
        rw [← he] at r1
        obtain ⟨q1, q2, q3, q4, q5, q6, q7, q8⟩ := r1
        -- the two edges
        have E1 : st = a ∨ e = b ∨ μ d[st - 1]! ≤ μ d[e]! := by
          rcases e1 with h | h
          · split at h
            · right; left; omega
            · left; exact h
          · simp only [ltBy, Bool.not_eq_true', decide_eq_false_iff_not, Int.not_lt] at h
            by_cases c0 : st = a
            · exact Or.inl c0
            · right; right
              rwa [show mid + m - 1 - (st - 1) = e by omega] at h
        have E2 : st = m ∨ e = m ∨ μ d[e - 1]! < μ d[st]! := by
          rcases e2 with h | h
          · split at h
            · right; left; omega
            · left; exact h
          · simp only [ltBy, Bool.not_eq_false', decide_eq_true_eq] at h
            right; right
            rwa [show mid + m - 1 - st = e - 1 by omega] at h
        clear e1 e2 hs r0 r0'
        rw [← he]
        -- behind the rotation
        have H1 : ∃ d1, (if st < m ∧ m < e then rotate d st m e else d) = d1 ∧ Rotated st m e d d1 ∧ PermIn a b d d1 := by
          refine ⟨_, rfl, ?_⟩
          split
          · rename_i c
            obtain ⟨R, P⟩ := rotate_spec d st m e c.1 c.2 (by omega)
            exact ⟨R, permIn_mono _ _ st e a b q1 q5 hb P⟩
          · rename_i c
            refine ⟨⟨rfl, fun t => ?_⟩, permIn_refl d a b⟩
            repeat' split
            all_goals first | omega | (congr 1; omega) | rfl
        obtain ⟨d1, hd1, R, P1⟩ := H1
        rw [hd1]
        clear hd1
        have g := R.2
        have b1 : b ≤ d1.size := by rw [P1.1]; exact hb
        -- where what stands, by parts
        have A1 : ∀ t, t < st → d1[t]! = d[t]! := fun t t1 => by rw [g, if_neg (by omega), if_neg (by omega)]
        have A2 : ∀ t, st ≤ t → t < mid → d1[t]! = d[t - st + m]! := fun t t1 t2 => by rw [g, if_pos (by omega)]
        have A3 : ∀ t, mid ≤ t → t < e → d1[t]! = d[t - (e - m)]! := fun t t1 t2 => by rw [g, if_neg (by omega), if_pos (by omega)]
        have A4 : ∀ t, e ≤ t → d1[t]! = d[t]! := fun t t1 => by rw [g, if_neg (by omega), if_neg (by omega)]
        have s1 : SortedIn (ltBy μ) a st d1 := sortedBy.2 fun x y x1 x2 x3 => by rw [A1 x (by omega), A1 y x3]; exact sortedBy_le sl x1 (by omega) (by omega)
        have s2 : SortedIn (ltBy μ) st mid d1 := sortedBy.2 fun x y x1 x2 x3 => by rw [A2 x x1 (by omega), A2 y (by omega) x3]; exact sortedBy_le sr (by omega) (by omega) (by omega)
        have s3 : SortedIn (ltBy μ) mid e d1 := sortedBy.2 fun x y x1 x2 x3 => by rw [A3 x x1 (by omega), A3 y (by omega) x3]; exact sortedBy_le sl (by omega) (by omega) (by omega)
        have s4 : SortedIn (ltBy μ) e b d1 := sortedBy.2 fun x y x1 x2 x3 => by rw [A4 x x1, A4 y (by omega)]; exact sortedBy_le sr (by omega) (by omega) (by omega)
        -- nothing on the right of mid stands ahead of anything on its left
        have cross : ∀ x y, a ≤ x → x < mid → mid ≤ y → y < b → μ d1[x]! ≤ μ d1[y]! := fun x y x1 x2 y1 y2 => by
          by_cases cx : x < st
          · rw [A1 x cx]
            by_cases cy : y < e
            · rw [A3 y y1 cy]; exact sortedBy_le sl x1 (by omega) (by omega)
            · rw [A4 y (by omega)]
              have u := sortedBy_le sl x1 (show x ≤ st - 1 by omega) (by omega)
              have w := sortedBy_le sr (show m ≤ e by omega) (show e ≤ y by omega) y2
              rcases E1 with h | h | h
              · omega
              · omega
              · omega
          · rw [A2 x (by omega) x2]
            by_cases cy : y < e
            · rw [A3 y y1 cy]
              have u := sortedBy_le sr (show m ≤ x - st + m by omega) (show x - st + m ≤ e - 1 by omega) (by omega)
              have w := sortedBy_le sl (show a ≤ st by omega) (show st ≤ y - (e - m) by omega) (by omega)
              rcases E2 with h | h | h
              · omega
              · omega
              · omega
            · rw [A4 y (by omega)]; exact sortedBy_le sr (by omega) (by omega) y2
        have F1 : ∀ v, fil μ v (seg d1 a b) = fil μ v (seg d a b) := fun v => by
          refine fil_within (p := st) (q := e) q1 (by omega) q5 (fun t ht => ?_) v (rotated_fil R q2 q4 (fun x y x1 x2 y1 y2 => ?_) v)
          · rcases ht with ht | ht
            · exact A1 t ht
            · exact A4 t ht
          · have u := sortedBy_le sl (show a ≤ st by omega) x1 x2
            have w := sortedBy_le sr y1 (show y ≤ e - 1 by omega) (by omega)
            rcases E2 with h | h | h
            · omega
            · omega
            · omega
        -- the left half
        have H2 : ∃ d2, (if _h : (a < st ∧ st < mid) ∧ mid < b then symMerge (ltBy μ) d1 a st mid else d1) = d2 ∧ StableIn μ a mid d1 d2 := by
          refine ⟨_, rfl, ?_⟩
          split
          · exact ih a st mid d1 (by omega) (by omega) (by omega) (by omega) s1 s2
          · rename_i c
            refine StableIn.refl ?_
            by_cases c1 : a < st
            · obtain rfl : st = mid := by omega
              exact s1
            · obtain rfl : st = a := by omega
              exact s2
        obtain ⟨d2, hd2, P2, S2, F2⟩ := H2
        rw [hd2]
        clear hd2
        have b2 : b ≤ d2.size := by rw [P2.1]; exact b1
        have o2 : ∀ t, mid ≤ t → d2[t]! = d1[t]! := fun t ht => P2.2.1 t (Or.inr ht)
        have s3' : SortedIn (ltBy μ) mid e d2 := sortedBy.2 fun x y x1 x2 x3 => by rw [o2 x x1, o2 y (by omega)]; exact sortedBy_le s3 x1 (by omega) x3
        have s4' : SortedIn (ltBy μ) e b d2 := sortedBy.2 fun x y x1 x2 x3 => by rw [o2 x (by omega), o2 y (by omega)]; exact sortedBy_le s4 x1 (by omega) x3
        have H3 : ∃ d3, (if _h : (mid < e ∧ e < b) ∧ a < mid then symMerge (ltBy μ) d2 mid e b else d2) = d3 ∧ StableIn μ mid b d2 d3 := by
          refine ⟨_, rfl, ?_⟩
          split
          · exact ih mid e b d2 (by omega) (by omega) (by omega) b2 s3' s4'
          · rename_i c
            refine StableIn.refl ?_
            by_cases c1 : mid < e
            · obtain rfl : e = b := by omega
              exact s3'
            · obtain rfl : e = mid := by omega
              exact s4'
        obtain ⟨d3, hd3, P3, S3, F3⟩ := H3
        rw [hd3]
        clear hd3
        have o3 : ∀ t, t < mid → d3[t]! = d2[t]! := fun t ht => P3.2.1 t (Or.inl ht)
        -- the glue
        have c1 : ∀ x, a ≤ x → x < mid → ∀ y, mid ≤ y → y < b → μ d2[x]! ≤ μ d1[y]! := by
          have := permIn_all d1 d2 a mid (fun z => ∀ y, mid ≤ y → y < b → μ z ≤ μ d1[y]!) (by omega) P2 (fun x x1 x2 y y1 y2 => cross x y x1 x2 y1 y2)
          exact this
        have c2 : ∀ y, mid ≤ y → y < b → ∀ x, a ≤ x → x < mid → μ d2[x]! ≤ μ d3[y]! := by
          have := permIn_all d2 d3 mid b (fun z => ∀ x, a ≤ x → x < mid → μ d2[x]! ≤ μ z) b2 P3 (fun y y1 y2 x x1 x2 => by rw [o2 y y1]; exact c1 x x1 x2 y y1 y2)
          exact this
        refine ⟨sortedBy.2 fun x y x1 x2 x3 => ?_, fun v => ?_⟩
        · by_cases cx : x < mid
          · rw [o3 x cx]
            by_cases cy : y < mid
            · rw [o3 y cy]; exact sortedBy_le S2 x1 (by omega) cy
            · exact c2 y (by omega) x3 x x1 cx
          · exact sortedBy_le S3 (by omega) (by omega) x3
        · rw [← F1 v, fil_within (p := mid) (q := b) (by omega) (by omega) (Nat.le_refl _) P3.2.1 v (F3 v), fil_within (p := a) (q := mid) (Nat.le_refl _) (by omega) (by omega) P2.2.1 v (F2 v)]
end
end Go.Proofs.YtglgmkikegbchaaGreat

/- Stability: insertionSort and stable leave those that are alike as they stood; a sorted list is told by them. -/
namespace Go.Proofs.YtglgmkikegbchaaGreat
open Go.Sort
variable {α : Type} [Inhabited α] {μ : α → Int}

theorem insInner_fil (a b : Nat) : ∀ (j : Nat) (d : Array α), j < b → b ≤ d.size → ∀ v, fil μ v (seg (insInner (ltBy μ) a j d) a b) = fil μ v (seg d a b)
  | 0, _, _, _, _ => rfl
  | j + 1, d, hj, hb, v => by
    rw [insInner]
    split
    · rename_i hc
      simp only [Bool.and_eq_true, decide_eq_true_eq] at hc
      rw [insInner_fil a b j _ (by omega) (by rw [size_swp]; exact hb)]
      have hr := (downLoop_spec (j + 2) 1 (j + 1) d (by omega) (by omega) rfl).1
      rw [Nat.add_sub_cancel] at hr
      have e : downLoop 1 (j + 1) d = swp d (j + 1) j := rfl
      rw [e] at hr
      refine fil_within (p := j) (q := j + 2) (by omega) (by omega) (by omega) (fun i hi => ?_) v (rotated_fil hr (by omega) (by omega) (fun i k h1 h2 h3 h4 => ?_) v)
      · rw [swp_at d (by omega) (by omega), if_neg (by omega), if_neg (by omega)]
      · obtain rfl : i = j := by omega
        obtain rfl : k = i + 1 := by omega
        simpa [ltBy] using hc.2
    · rfl
theorem insOuter_fil (a b : Nat) : ∀ (N i : Nat) (d : Array α), b - i ≤ N → b ≤ d.size → ∀ v, fil μ v (seg (insOuter (ltBy μ) a b i d) a b) = fil μ v (seg d a b) := by
  intro N
  induction N with
  | zero => intro i d h hb v; rw [insOuter, if_neg (by omega)]
  | succ N ih =>
    intro i d h hb v
    rw [insOuter]
    split
    · rename_i hi
      have hs := (insInner_perm (lt := ltBy μ) a b i d hi hb).1
      rw [ih _ _ (by omega) (by rw [hs]; exact hb), insInner_fil a b i d hi hb]
    · rfl
theorem insertionSort_stable (d : Array α) (a b : Nat) (hab : a ≤ b) (hb : b ≤ d.size) : StableIn μ a b d (insertionSort (ltBy μ) d a b) :=
  ⟨insertionSort_perm (lt := ltBy μ) d a b hb, (insertionSort_holds (swo_ltBy μ) d a b hab hb).2, insOuter_fil a b _ _ d (Nat.le_refl _) hb⟩

theorem sorted_of_same {a b : Nat} {d d' : Array α} (h : SortedIn (ltBy μ) a b d) (hs : ∀ i, a ≤ i → i < b → d'[i]! = d[i]!) : SortedIn (ltBy μ) a b d' :=
  sortedBy.2 fun i j h1 h2 h3 => by rw [hs i h1 (by omega), hs j (by omega) h3]; exact sortedBy.1 h i j h1 h2 h3
theorem sorted_part {a b p q : Nat} {d : Array α} (h : SortedIn (ltBy μ) a b d) (h1 : a ≤ p) (h2 : q ≤ b) : SortedIn (ltBy μ) p q d :=
  sortedBy.2 fun i j g1 g2 g3 => sortedBy.1 h i j (by omega) g2 (by omega)
theorem sorted_none {a b : Nat} {d : Array α} (h : b ≤ a) : SortedIn (ltBy μ) a b d := sortedBy.2 fun i j g1 g2 g3 => by omega

theorem insBlocks_stable (s n : Nat) (hs : 0 < s) : ∀ (N a : Nat) (d : Array α), n - a ≤ N → a ≤ n → n ≤ d.size →
    PermIn a n d (insBlocks (ltBy μ) s n a d) ∧ (∀ v, fil μ v (seg (insBlocks (ltBy μ) s n a d) a n) = fil μ v (seg d a n)) ∧ ∀ t, SortedIn (ltBy μ) (a + t * s) (min (a + t * s + s) n) (insBlocks (ltBy μ) s n a d) := by
  intro N
  induction N with
  | zero =>
    intro a d h ha hn
    rw [insBlocks, dif_neg (by omega)]
    have hst := insertionSort_stable (μ := μ) d a n ha hn
    exact ⟨hst.1, hst.2.2, fun t => sorted_none (by omega)⟩
  | succ N ih =>
    intro a d h ha hn
    rw [insBlocks]
    split
    · rename_i hc
      have hst := insertionSort_stable (μ := μ) d a (a + s) (by omega) (by omega)
      generalize insertionSort (ltBy μ) d a (a + s) = d1 at hst ⊢
      obtain ⟨q1, q2, q3⟩ := ih (a + s) d1 (by omega) (by omega) (by rw [hst.1.1]; exact hn)
      generalize insBlocks (ltBy μ) s n (a + s) d1 = d2 at q1 q2 q3 ⊢
      refine ⟨permIn_trans _ _ _ _ _ (permIn_mono _ _ a (a + s) a n (Nat.le_refl _) hc.1 hn hst.1) (permIn_mono _ _ (a + s) n a n (by omega) (Nat.le_refl _) (by rw [hst.1.1]; exact hn) q1), fun v => ?_, fun t => ?_⟩
      · exact (fil_within (p := a + s) (q := n) (by omega) (by omega) (Nat.le_refl _) (fun i hi => q1.2.1 i hi) v (q2 v)).trans (fil_within (p := a) (q := a + s) (Nat.le_refl _) (by omega) (by omega) (fun i hi => hst.1.2.1 i hi) v (hst.2.2 v))
      · cases t with
        | zero =>
          refine sorted_part (sorted_of_same hst.2.1 (fun i h1 h2 => q1.2.1 i (Or.inl h2))) (by omega) (by omega)
        | succ t =>
          have := q3 t
          rwa [show a + s + t * s = a + (t + 1) * s by rw [Nat.add_mul]; omega] at this
    · rename_i hc
      have hst := insertionSort_stable (μ := μ) d a n ha hn
      refine ⟨hst.1, hst.2.2, fun t => ?_⟩
      cases t with
      | zero => exact sorted_part hst.2.1 (by omega) (by omega)
      | succ t => exact sorted_none (by rw [Nat.add_mul]; omega)

theorem mergePass_stable (s n : Nat) (hs : 0 < s) : ∀ (N a : Nat) (d : Array α), n - a ≤ N → n ≤ d.size → (∀ t, SortedIn (ltBy μ) (a + t * s) (min (a + t * s + s) n) d) →
    PermIn a n d (mergePass (ltBy μ) s n a d) ∧ (∀ v, fil μ v (seg (mergePass (ltBy μ) s n a d) a n) = fil μ v (seg d a n)) ∧ ∀ t, SortedIn (ltBy μ) (a + t * (s * 2)) (min (a + t * (s * 2) + s * 2) n) (mergePass (ltBy μ) s n a d) := by
  intro N
  induction N with
  | zero =>
    intro a d h hn hd
    rw [mergePass, dif_neg (by omega), if_neg (by omega)]
    exact ⟨permIn_refl d a n, fun _ => rfl, fun t => sorted_none (by omega)⟩
  | succ N ih =>
    intro a d h hn hd
    rw [mergePass]
    have h0 := hd 0
    have h1 := hd 1
    rw [Nat.zero_mul, Nat.add_zero] at h0
    rw [Nat.one_mul] at h1
    split
    · rename_i hc
      have hst := symMerge_stable (μ := μ) _ a (a + s) (a + 2 * s) d (Nat.le_refl _) (by omega) (by omega) (by omega) (sorted_part h0 (Nat.le_refl _) (by omega)) (sorted_part h1 (Nat.le_refl _) (by omega))
      generalize symMerge (ltBy μ) d a (a + s) (a + 2 * s) = d1 at hst ⊢
      obtain ⟨q1, q2, q3⟩ := ih (a + 2 * s) d1 (by omega) (by rw [hst.1.1]; exact hn) (fun t => by
        have := hd (t + 2)
        rw [show a + (t + 2) * s = a + 2 * s + t * s by rw [Nat.add_mul]; omega] at this
        exact sorted_of_same this (fun i g1 g2 => hst.1.2.1 i (Or.inr (by omega))))
      generalize mergePass (ltBy μ) s n (a + 2 * s) d1 = d2 at q1 q2 q3 ⊢
      refine ⟨permIn_trans _ _ _ _ _ (permIn_mono _ _ a (a + 2 * s) a n (Nat.le_refl _) hc.1 hn hst.1) (permIn_mono _ _ (a + 2 * s) n a n (by omega) (Nat.le_refl _) (by rw [hst.1.1]; exact hn) q1), fun v => ?_, fun t => ?_⟩
      · exact (fil_within (p := a + 2 * s) (q := n) (by omega) (by omega) (Nat.le_refl _) (fun i hi => q1.2.1 i hi) v (q2 v)).trans (fil_within (p := a) (q := a + 2 * s) (Nat.le_refl _) (by omega) (by omega) (fun i hi => hst.1.2.1 i hi) v (hst.2.2 v))
      · cases t with
        | zero => exact sorted_part (sorted_of_same hst.2.1 (fun i g1 g2 => q1.2.1 i (Or.inl g2))) (by omega) (by omega)
        | succ t =>
          have := q3 t
          rwa [show a + 2 * s + t * (s * 2) = a + (t + 1) * (s * 2) by rw [Nat.add_mul]; omega] at this
    · rename_i hc
      split
      · rename_i hc2
        have hst := symMerge_stable (μ := μ) _ a (a + s) n d (Nat.le_refl _) (by omega) hc2 hn (sorted_part h0 (Nat.le_refl _) (by omega)) (sorted_part h1 (Nat.le_refl _) (by omega))
        refine ⟨hst.1, hst.2.2, fun t => ?_⟩
        cases t with
        | zero => exact sorted_part hst.2.1 (by omega) (by omega)
        | succ t => exact sorted_none (by rw [Nat.add_mul]; omega)
      · refine ⟨permIn_refl d a n, fun _ => rfl, fun t => ?_⟩
        cases t with
        | zero => exact sorted_part h0 (by omega) (by omega)
        | succ t => exact sorted_none (by rw [Nat.add_mul]; omega)

theorem stableLoop_stable (n : Nat) : ∀ (N s : Nat) (d : Array α), n - s ≤ N → 0 < s → n ≤ d.size → (∀ t, SortedIn (ltBy μ) (0 + t * s) (min (0 + t * s + s) n) d) → StableIn μ 0 n d (stableLoop (ltBy μ) n s d) := by
  intro N
  induction N with
  | zero =>
    intro s d h hs hn hd
    rw [stableLoop, dif_neg (by omega)]
    exact StableIn.refl (sorted_part (hd 0) (by omega) (by omega))
  | succ N ih =>
    intro s d h hs hn hd
    rw [stableLoop]
    split
    · rename_i hc
      obtain ⟨q1, q2, q3⟩ := mergePass_stable (μ := μ) s n hs _ 0 d (Nat.le_refl _) hn hd
      have r := ih (s * 2) (mergePass (ltBy μ) s n 0 d) (by omega) (by omega) (by rw [q1.1]; exact hn) q3
      exact ⟨permIn_trans _ _ _ _ _ q1 r.1, r.2.1, fun v => (r.2.2 v).trans (q2 v)⟩
    · exact StableIn.refl (sorted_part (hd 0) (by omega) (by omega))
theorem stable_stable (d : Array α) (n : Nat) (hn : n ≤ d.size) : StableIn μ 0 n d (stable (ltBy μ) d n) := by
  obtain ⟨q1, q2, q3⟩ := insBlocks_stable (μ := μ) 20 n (by decide) _ 0 d (Nat.le_refl _) (Nat.zero_le _) hn
  have r := stableLoop_stable (μ := μ) n _ 20 _ (Nat.le_refl _) (by decide) (by rw [q1.1]; exact hn) q3
  exact ⟨permIn_trans _ _ _ _ _ q1 r.1, r.2.1, fun v => (r.2.2 v).trans (q2 v)⟩

/-! ### a list in the order, and by putting one behind the other into its place -/
section
omit [Inhabited α]
def Asc (μ : α → Int) (l : List α) : Prop := l.Pairwise fun x y => μ x ≤ μ y
theorem asc_unique : ∀ (l k : List α), Asc μ l → Asc μ k → (∀ v, fil μ v l = fil μ v k) → l = k
  | [], [], _, _, _ => rfl
  | [], y :: k, _, _, h => by
    have := h (μ y)
    simp [fil] at this
  | x :: l, [], _, _, h => by
    have := h (μ x)
    simp [fil] at this
  | x :: l, y :: k, hl, hk, h => by
    have hx : x ∈ y :: k := by
      have : x ∈ fil μ (μ x) (y :: k) := by rw [← h]; simp [fil]
      exact (List.mem_filter.1 this).1
    have hy : y ∈ x :: l := by
      have : y ∈ fil μ (μ y) (x :: l) := by rw [h]; simp [fil]
      exact (List.mem_filter.1 this).1
    have le1 : μ y ≤ μ x := by
      rcases List.mem_cons.1 hx with rfl | hx
      · exact Int.le_refl _
      · exact (List.pairwise_cons.1 hk).1 x hx
    have le2 : μ x ≤ μ y := by
      rcases List.mem_cons.1 hy with rfl | hy
      · exact Int.le_refl _
      · exact (List.pairwise_cons.1 hl).1 y hy
    have e : μ x = μ y := by omega
    have hh := h (μ x)
    unfold fil at hh
    rw [List.filter_cons_of_pos (by simp), List.filter_cons_of_pos (by simp [e])] at hh
    injection hh with e1 e2
    subst e1
    rw [asc_unique l k (List.pairwise_cons.1 hl).2 (List.pairwise_cons.1 hk).2 (fun v => ?_)]
    have hv := h v
    unfold fil at hv ⊢
    rw [List.filter_cons, List.filter_cons] at hv
    split at hv
    · injection hv
    · exact hv
end

/-- A list with an element put ahead of the place p. -/
def insAt (l : List α) (p : Nat) (x : α) : List α := l.take p ++ x :: l.drop p
/-- By putting one behind the other into its place: the first one whose element stands behind. -/
def stablyFrom (lt : α → α → Bool) (out : List α) : List α → List α
  | [] => out
  | x :: l => stablyFrom lt (insAt out (bsearch (fun m => !lt x out[m]!) 0 out.length) x) l
def stablyP (lt : α → α → Bool) (l : List α) : List α := stablyFrom lt [] l

theorem asc_insAt (out : List α) (x : α) (h : Asc μ out) : Asc μ (insAt out (bsearch (fun m => !ltBy μ x out[m]!) 0 out.length) x) ∧ ∀ v, fil μ v (insAt out (bsearch (fun m => !ltBy μ x out[m]!) 0 out.length) x) = fil μ v (out ++ [x]) := by
  obtain ⟨b1, b2, b3, b4⟩ := bsearch_spec (fun m => !ltBy μ x out[m]!) 0 out.length (Nat.zero_le _)
  generalize bsearch (fun m => !ltBy μ x out[m]!) 0 out.length = p at b1 b2 b3 b4 ⊢
  have hget : ∀ (i j : Nat) (hij : i ≤ j) (hj : j < out.length), μ (out[i]'(Nat.lt_of_le_of_lt hij hj)) ≤ μ out[j] := fun i j hij hj => by
    rcases Nat.lt_or_ge i j with e | e
    · exact (List.pairwise_iff_getElem.1 h) i j (by omega) hj e
    · obtain rfl : i = j := by omega
      exact Int.le_refl _
  have hlo : ∀ y ∈ out.take p, μ y ≤ μ x := fun y hy => by
    obtain ⟨i, hi, rfl⟩ := List.mem_iff_getElem.1 hy
    have hi' : i < p := by have := hi; rw [List.length_take] at this; omega
    rw [List.getElem_take]
    rcases b3 with rfl | b3
    · omega
    · simp only [Bool.not_eq_true', ltBy, decide_eq_false_iff_not, Int.not_lt] at b3
      rw [getElem!_pos out (p - 1) (by omega)] at b3
      exact Int.le_trans (hget i (p - 1) (by omega) (by omega)) b3
  have hhi : ∀ y ∈ out.drop p, μ x < μ y := fun y hy => by
    obtain ⟨i, hi, rfl⟩ := List.mem_iff_getElem.1 hy
    have hi' : p + i < out.length := by have := hi; rw [List.length_drop] at this; omega
    rw [List.getElem_drop]
    rcases b4 with rfl | b4
    · omega
    · simp only [Bool.not_eq_false', ltBy, decide_eq_true_eq] at b4
      rw [getElem!_pos out p (by omega)] at b4
      exact Int.lt_of_lt_of_le b4 (hget p (p + i) (by omega) hi')
  have hs : Asc μ (out.take p ++ out.drop p) := by rw [List.take_append_drop]; exact h
  obtain ⟨s1, s2, s3⟩ := List.pairwise_append.1 hs
  constructor
  · refine List.pairwise_append.2 ⟨s1, List.pairwise_cons.2 ⟨fun y hy => Int.le_of_lt (hhi y hy), s2⟩, fun y hy z hz => ?_⟩
    rcases List.mem_cons.1 hz with rfl | hz
    · exact hlo y hy
    · exact s3 y hy z hz
  · intro v
    unfold insAt
    rw [show out.take p ++ x :: out.drop p = out.take p ++ ([x] ++ out.drop p) from rfl, fil_append, fil_append μ v [x]]
    conv => rhs; rw [← List.take_append_drop p out]
    rw [fil_append, fil_append, List.append_assoc]
    congr 1
    by_cases hx : μ x = v
    · have : fil μ v (out.drop p) = [] := fil_nil_of μ fun y hy => by have := hhi y hy; omega
      rw [this]; simp
    · have : fil μ v [x] = [] := fil_nil_of μ fun y hy => by rw [List.mem_singleton.1 hy]; exact hx
      rw [this]; simp
theorem asc_stablyFrom : ∀ (l out : List α), Asc μ out → Asc μ (stablyFrom (ltBy μ) out l) ∧ ∀ v, fil μ v (stablyFrom (ltBy μ) out l) = fil μ v (out ++ l)
  | [], out, h => ⟨h, fun v => by rw [List.append_nil]; rfl⟩
  | x :: l, out, h => by
    obtain ⟨h1, h2⟩ := asc_insAt out x h
    obtain ⟨h3, h4⟩ := asc_stablyFrom l _ h1
    refine ⟨h3, fun v => ?_⟩
    rw [stablyFrom, h4, fil_append, h2, ← fil_append]
    simp
/-- What a stable sort of a part leaves there. -/
theorem stably_of {a b : Nat} {d d' : Array α} (h : StableIn μ a b d d') (_hab : a ≤ b) : seg d' a b = stablyP (ltBy μ) (seg d a b) := by
  obtain ⟨h1, h2⟩ := asc_stablyFrom (μ := μ) (seg d a b) [] List.Pairwise.nil
  refine asc_unique _ _ ?_ h1 (fun v => (h.2.2 v).trans (h2 v).symm)
  refine List.pairwise_iff_getElem.2 fun i j hi hj hij => ?_
  rw [seg_get, seg_get]
  rw [seg_length] at hj
  exact sortedBy.1 h.2.1 (a + i) (a + j) (by omega) (by omega) (by omega)
end Go.Proofs.YtglgmkikegbchaaGreat

/- The functions of sorting know nothing of the elements but what comes of comparing: they commute with what leaves comparing as it is. -/
namespace Go.Proofs.YtglgmkikegbchaaGreat
open Go.Sort
section
variable {α β : Type} [Inhabited α] [Inhabited β] (g : β → α) (hd : g default = default)
include hd

theorem nat_at (ks : Array β) (i : Nat) : (ks.map g)[i]! = g ks[i]! := by
  rcases Nat.lt_or_ge i ks.size with h | h
  · rw [getElem!_pos _ i (by simpa using h), getElem!_pos ks i h]; simp
  · rw [getElem!_neg _ i (by simp; omega), getElem!_neg ks i (by omega), hd]
theorem nat_swp (ks : Array β) (i j : Nat) : swp (ks.map g) i j = (swp ks i j).map g := by
  unfold swp
  rw [Array.map_setIfInBounds, Array.map_setIfInBounds, nat_at g hd, nat_at g hd]
theorem nat_swapLoop (a b : Nat) : ∀ (k i : Nat) (ks : Array β), swapLoop a b k i (ks.map g) = (swapLoop a b k i ks).map g
  | 0, _, _ => rfl
  | k + 1, i, ks => by rw [swapLoop, swapLoop, nat_swp g hd, nat_swapLoop a b k]
theorem nat_swapRange (ks : Array β) (a b n : Nat) : swapRange (ks.map g) a b n = (swapRange ks a b n).map g := nat_swapLoop g hd a b n 0 ks
theorem nat_reverseLoop : ∀ (N i j : Nat) (ks : Array β), j - i ≤ N → reverseLoop i j (ks.map g) = (reverseLoop i j ks).map g := by
  intro N
  induction N with
  | zero => intro i j ks h; rw [reverseLoop, if_neg (by omega), reverseLoop, if_neg (by omega)]
  | succ N ih =>
    intro i j ks h
    conv => lhs; rw [reverseLoop]
    conv => rhs; rw [reverseLoop]
    split
    · rw [nat_swp g hd, ih _ _ _ (by omega)]
    · rfl
theorem nat_reverseRange (ks : Array β) (a b : Nat) : reverseRange (ks.map g) a b = (reverseRange ks a b).map g := nat_reverseLoop g hd _ a (b - 1) ks (Nat.le_refl _)
theorem nat_rotLoop (m : Nat) : ∀ (N i j : Nat) (ks : Array β), i + j ≤ N → rotLoop m i j (ks.map g) = (rotLoop m i j ks).map g := by
  intro N
  induction N with
  | zero =>
    intro i j ks h
    obtain rfl : i = 0 := by omega
    obtain rfl : j = 0 := by omega
    conv => lhs; rw [rotLoop, if_pos rfl]
    conv => rhs; rw [rotLoop, if_pos rfl]
    exact nat_swapRange g hd _ _ _ _
  | succ N ih =>
    intro i j ks h
    conv => lhs; rw [rotLoop]
    conv => rhs; rw [rotLoop]
    split
    · exact nat_swapRange g hd _ _ _ _
    · split
      · split
        · rw [nat_swapRange g hd, ih _ _ _ (by omega)]
        · rfl
      · split
        · rw [nat_swapRange g hd, ih _ _ _ (by omega)]
        · rfl
theorem nat_rotate (ks : Array β) (a m b : Nat) : rotate (ks.map g) a m b = (rotate ks a m b).map g := nat_rotLoop g hd m _ _ _ ks (Nat.le_refl _)
theorem nat_breakStep (a L M : Nat) (r : UInt64) (ks : Array β) (i : Nat) : breakStep a L M (r, ks.map g) i = ((breakStep a L M (r, ks) i).1, (breakStep a L M (r, ks) i).2.map g) := by
  unfold breakStep
  simp only [nat_swp g hd]
theorem nat_breakPatterns (ks : Array β) (a b : Nat) : breakPatterns (ks.map g) a b = (breakPatterns ks a b).map g := by
  unfold breakPatterns
  simp only []
  split
  · rw [nat_breakStep g hd, nat_breakStep g hd, nat_breakStep g hd]
  · rfl
theorem nat_upLoop : ∀ (n k : Nat) (ks : Array β), upLoop n k (ks.map g) = (upLoop n k ks).map g
  | 0, _, _ => rfl
  | n + 1, k, ks => by rw [upLoop, upLoop, nat_swp g hd, nat_upLoop n]
theorem nat_downLoop : ∀ (n k : Nat) (ks : Array β), downLoop n k (ks.map g) = (downLoop n k ks).map g
  | 0, _, _ => rfl
  | n + 1, k, ks => by rw [downLoop, downLoop, nat_swp g hd, nat_downLoop n]

variable (lt : α → α → Bool) (lt' : β → β → Bool) (hl : ∀ x y, lt (g x) (g y) = lt' x y)
include hl

theorem nat_insInner (a : Nat) : ∀ (j : Nat) (ks : Array β), insInner lt a j (ks.map g) = (insInner lt' a j ks).map g
  | 0, _ => rfl
  | j + 1, ks => by
    rw [insInner, insInner, nat_at g hd, nat_at g hd, hl]
    split
    · rw [nat_swp g hd, nat_insInner a j]
    · rfl
theorem nat_insOuter (a b : Nat) : ∀ (N i : Nat) (ks : Array β), b - i ≤ N → insOuter lt a b i (ks.map g) = (insOuter lt' a b i ks).map g := by
  intro N
  induction N with
  | zero => intro i ks h; rw [insOuter, if_neg (by omega), insOuter, if_neg (by omega)]
  | succ N ih =>
    intro i ks h
    conv => lhs; rw [insOuter]
    conv => rhs; rw [insOuter]
    split
    · rw [nat_insInner g hd lt lt' hl, ih _ _ (by omega)]
    · rfl
theorem nat_insertionSort (ks : Array β) (a b : Nat) : insertionSort lt (ks.map g) a b = (insertionSort lt' ks a b).map g := nat_insOuter g hd lt lt' hl a b _ _ ks (Nat.le_refl _)
theorem nat_siftDown (hi first : Nat) : ∀ (N r : Nat) (ks : Array β), hi - r ≤ N → siftDown lt hi first r (ks.map g) = (siftDown lt' hi first r ks).map g := by
  intro N
  induction N with
  | zero => intro r ks h; rw [siftDown, dif_pos (by omega), siftDown, dif_pos (by omega)]
  | succ N ih =>
    intro r ks h
    conv => lhs; rw [siftDown]
    conv => rhs; rw [siftDown]
    simp only [nat_at g hd, hl, nat_swp g hd]
    split
    · rfl
    · split
      · split
        · rfl
        · split
          · exact ih _ _ (by omega)
          · rfl
      · split
        · rfl
        · exact ih _ _ (by omega)
theorem nat_heapBuild (hi first : Nat) : ∀ (k : Nat) (ks : Array β), heapBuild lt hi first k (ks.map g) = (heapBuild lt' hi first k ks).map g
  | 0, _ => rfl
  | k + 1, ks => by rw [heapBuild, heapBuild, nat_siftDown g hd lt lt' hl hi first _ _ _ (Nat.le_refl _), nat_heapBuild hi first k]
theorem nat_heapPop (first : Nat) : ∀ (k : Nat) (ks : Array β), heapPop lt first k (ks.map g) = (heapPop lt' first k ks).map g
  | 0, _ => rfl
  | k + 1, ks => by rw [heapPop, heapPop, nat_swp g hd, nat_siftDown g hd lt lt' hl _ first _ _ _ (Nat.le_refl _), nat_heapPop first k]
theorem nat_heapSort (ks : Array β) (a b : Nat) : heapSort lt (ks.map g) a b = (heapSort lt' ks a b).map g := by
  rw [heapSort, heapSort, nat_heapBuild g hd lt lt' hl, nat_heapPop g hd lt lt' hl]
omit hl in
theorem nat_scanUp (p : α → Bool) (p' : β → Bool) (hp : ∀ x, p (g x) = p' x) (ks : Array β) (j : Nat) : ∀ (N i : Nat), j + 1 - i ≤ N → scanUp p (ks.map g) j i = scanUp p' ks j i := by
  intro N
  induction N with
  | zero => intro i h; rw [scanUp, if_neg (by simp; omega), scanUp, if_neg (by simp; omega)]
  | succ N ih =>
    intro i h
    conv => lhs; rw [scanUp]
    conv => rhs; rw [scanUp]
    rw [nat_at g hd, hp]
    split
    · rename_i hc
      simp only [Bool.and_eq_true, decide_eq_true_eq] at hc
      exact ih _ (by omega)
    · rfl
omit hl in
theorem nat_scanDown (p : α → Bool) (p' : β → Bool) (hp : ∀ x, p (g x) = p' x) (ks : Array β) (i : Nat) : ∀ j, scanDown p (ks.map g) i j = scanDown p' ks i j
  | 0 => rfl
  | j + 1 => by
    rw [scanDown, scanDown, nat_at g hd, hp]
    split
    · exact nat_scanDown p p' hp ks i j
    · rfl
theorem nat_partLoop (a : Nat) : ∀ (N i j : Nat) (ks : Array β), j + 1 - i ≤ N → partLoop lt a i j (ks.map g) = ((partLoop lt' a i j ks).1, (partLoop lt' a i j ks).2.map g) := by
  intro N
  induction N with
  | zero =>
    intro i j ks h
    conv => lhs; rw [partLoop_eq]
    conv => rhs; rw [partLoop_eq]
    have e1 := nat_scanUp g hd (fun x => lt x (ks.map g)[a]!) (fun x => lt' x ks[a]!) (fun x => by rw [nat_at g hd, hl]) ks j _ i (Nat.le_refl _)
    rw [e1]
    have e2 := nat_scanDown g hd (fun x => !lt x (ks.map g)[a]!) (fun x => !lt' x ks[a]!) (fun x => by rw [nat_at g hd, hl]) ks (scanUp (fun x => lt' x ks[a]!) ks j i) j
    rw [e2]
    obtain ⟨u1, _⟩ := scanUp_spec (fun x => lt' x ks[a]!) ks j _ i rfl
    obtain ⟨v1, _⟩ := scanDown_spec (fun x => !lt' x ks[a]!) ks (scanUp (fun x => lt' x ks[a]!) ks j i) j
    rw [if_pos (by omega), if_pos (by omega)]
  | succ N ih =>
    intro i j ks h
    conv => lhs; rw [partLoop_eq]
    conv => rhs; rw [partLoop_eq]
    have e1 := nat_scanUp g hd (fun x => lt x (ks.map g)[a]!) (fun x => lt' x ks[a]!) (fun x => by rw [nat_at g hd, hl]) ks j _ i (Nat.le_refl _)
    rw [e1]
    have e2 := nat_scanDown g hd (fun x => !lt x (ks.map g)[a]!) (fun x => !lt' x ks[a]!) (fun x => by rw [nat_at g hd, hl]) ks (scanUp (fun x => lt' x ks[a]!) ks j i) j
    rw [e2]
    obtain ⟨u1, _⟩ := scanUp_spec (fun x => lt' x ks[a]!) ks j _ i rfl
    obtain ⟨v1, _⟩ := scanDown_spec (fun x => !lt' x ks[a]!) ks (scanUp (fun x => lt' x ks[a]!) ks j i) j
    split
    · rfl
    · rw [nat_swp g hd]; exact ih _ _ _ (by omega)
theorem nat_partition (ks : Array β) (a b pv : Nat) : partition lt (ks.map g) a b pv = ((partition lt' ks a b pv).1, (partition lt' ks a b pv).2.1, (partition lt' ks a b pv).2.2.map g) := by
  unfold partition
  simp only [nat_swp g hd]
  generalize swp ks a pv = d
  have e1 := nat_scanUp g hd (fun x => lt x (d.map g)[a]!) (fun x => lt' x d[a]!) (fun x => by rw [nat_at g hd, hl]) d (b - 1) _ (a + 1) (Nat.le_refl _)
  rw [e1]
  have e2 := nat_scanDown g hd (fun x => !lt x (d.map g)[a]!) (fun x => !lt' x d[a]!) (fun x => by rw [nat_at g hd, hl]) d (scanUp (fun x => lt' x d[a]!) d (b - 1) (a + 1)) (b - 1)
  rw [e2]
  split
  · rfl
  · rw [nat_partLoop g hd lt lt' hl a _ _ _ _ (Nat.le_refl _), nat_swp g hd]
theorem nat_partEqLoop (a : Nat) : ∀ (N i j : Nat) (ks : Array β), j + 1 - i ≤ N → partEqLoop lt a i j (ks.map g) = ((partEqLoop lt' a i j ks).1, (partEqLoop lt' a i j ks).2.map g) := by
  intro N
  induction N with
  | zero =>
    intro i j ks h
    conv => lhs; rw [partEqLoop_eq]
    conv => rhs; rw [partEqLoop_eq]
    have e1 := nat_scanUp g hd (fun x => !lt (ks.map g)[a]! x) (fun x => !lt' ks[a]! x) (fun x => by rw [nat_at g hd, hl]) ks j _ i (Nat.le_refl _)
    rw [e1]
    have e2 := nat_scanDown g hd (fun x => lt (ks.map g)[a]! x) (fun x => lt' ks[a]! x) (fun x => by rw [nat_at g hd, hl]) ks (scanUp (fun x => !lt' ks[a]! x) ks j i) j
    rw [e2]
    obtain ⟨u1, _⟩ := scanUp_spec (fun x => !lt' ks[a]! x) ks j _ i rfl
    obtain ⟨v1, _⟩ := scanDown_spec (fun x => lt' ks[a]! x) ks (scanUp (fun x => !lt' ks[a]! x) ks j i) j
    rw [if_pos (by omega), if_pos (by omega)]
  | succ N ih =>
    intro i j ks h
    conv => lhs; rw [partEqLoop_eq]
    conv => rhs; rw [partEqLoop_eq]
    have e1 := nat_scanUp g hd (fun x => !lt (ks.map g)[a]! x) (fun x => !lt' ks[a]! x) (fun x => by rw [nat_at g hd, hl]) ks j _ i (Nat.le_refl _)
    rw [e1]
    have e2 := nat_scanDown g hd (fun x => lt (ks.map g)[a]! x) (fun x => lt' ks[a]! x) (fun x => by rw [nat_at g hd, hl]) ks (scanUp (fun x => !lt' ks[a]! x) ks j i) j
    rw [e2]
    obtain ⟨u1, _⟩ := scanUp_spec (fun x => !lt' ks[a]! x) ks j _ i rfl
    obtain ⟨v1, _⟩ := scanDown_spec (fun x => lt' ks[a]! x) ks (scanUp (fun x => !lt' ks[a]! x) ks j i) j
    split
    · rfl
    · rw [nat_swp g hd]; exact ih _ _ _ (by omega)
theorem nat_partitionEqual (ks : Array β) (a b pv : Nat) : partitionEqual lt (ks.map g) a b pv = ((partitionEqual lt' ks a b pv).1, (partitionEqual lt' ks a b pv).2.map g) := by
  unfold partitionEqual
  rw [nat_swp g hd, nat_partEqLoop g hd lt lt' hl a _ _ _ _ (Nat.le_refl _)]
theorem nat_scanSorted (ks : Array β) (b : Nat) : ∀ (N i : Nat), b - i ≤ N → scanSorted lt (ks.map g) b i = scanSorted lt' ks b i := by
  intro N
  induction N with
  | zero => intro i h; rw [scanSorted, if_neg (by simp; omega), scanSorted, if_neg (by simp; omega)]
  | succ N ih =>
    intro i h
    conv => lhs; rw [scanSorted]
    conv => rhs; rw [scanSorted]
    rw [nat_at g hd, nat_at g hd, hl]
    split
    · rename_i hc
      simp only [Bool.and_eq_true, decide_eq_true_eq] at hc
      exact ih _ (by omega)
    · rfl
theorem nat_shiftDown : ∀ (j : Nat) (ks : Array β), shiftDown lt j (ks.map g) = (shiftDown lt' j ks).map g
  | 0, _ => rfl
  | j + 1, ks => by
    rw [shiftDown, shiftDown, nat_at g hd, nat_at g hd, hl]
    split
    · rfl
    · rw [nat_swp g hd, nat_shiftDown j]
theorem nat_shiftUp (b : Nat) : ∀ (N j : Nat) (ks : Array β), b - j ≤ N → shiftUp lt b j (ks.map g) = (shiftUp lt' b j ks).map g := by
  intro N
  induction N with
  | zero => intro j ks h; rw [shiftUp, if_neg (by omega), shiftUp, if_neg (by omega)]
  | succ N ih =>
    intro j ks h
    conv => lhs; rw [shiftUp]
    conv => rhs; rw [shiftUp]
    rw [nat_at g hd, nat_at g hd, hl]
    split
    · split
      · rfl
      · rw [nat_swp g hd]; exact ih _ _ (by omega)
    · rfl
theorem nat_partialIns (a b : Nat) : ∀ (s i : Nat) (ks : Array β), partialIns lt a b s i (ks.map g) = ((partialIns lt' a b s i ks).1.map g, (partialIns lt' a b s i ks).2)
  | 0, _, _ => rfl
  | s + 1, i, ks => by
    rw [partialIns, partialIns, nat_scanSorted g hd lt lt' hl ks b _ _ (Nat.le_refl _)]
    generalize scanSorted lt' ks b i = k
    simp only []
    split
    · rfl
    · split
      · rfl
      · have e1 : (if k - a ≥ 2 then shiftDown lt (k - 1) (swp (ks.map g) k (k - 1)) else swp (ks.map g) k (k - 1)) = (if k - a ≥ 2 then shiftDown lt' (k - 1) (swp ks k (k - 1)) else swp ks k (k - 1)).map g := by
          rw [nat_swp g hd, nat_shiftDown g hd lt lt' hl]; split <;> rfl
        rw [e1]
        generalize (if k - a ≥ 2 then shiftDown lt' (k - 1) (swp ks k (k - 1)) else swp ks k (k - 1)) = d2
        have e2 : (if b - k ≥ 2 then shiftUp lt b (k + 1) (d2.map g) else d2.map g) = (if b - k ≥ 2 then shiftUp lt' b (k + 1) d2 else d2).map g := by
          rw [nat_shiftUp g hd lt lt' hl b _ _ _ (Nat.le_refl _)]; split <;> rfl
        rw [e2]
        exact nat_partialIns a b s k _
theorem nat_partialInsertionSort (ks : Array β) (a b : Nat) : partialInsertionSort lt (ks.map g) a b = ((partialInsertionSort lt' ks a b).1.map g, (partialInsertionSort lt' ks a b).2) := nat_partialIns g hd lt lt' hl a b 5 (a + 1) ks
theorem nat_order2 (ks : Array β) (a b s : Nat) : order2 lt (ks.map g) a b s = order2 lt' ks a b s := by
  unfold order2; rw [nat_at g hd, nat_at g hd, hl]
theorem nat_median (ks : Array β) (a b c s : Nat) : median lt (ks.map g) a b c s = median lt' ks a b c s := by
  unfold median; simp only [nat_order2 g hd lt lt' hl]
theorem nat_medianAdjacent (ks : Array β) (a s : Nat) : medianAdjacent lt (ks.map g) a s = medianAdjacent lt' ks a s := nat_median g hd lt lt' hl ks _ _ _ s
theorem nat_choosePivot (ks : Array β) (a b : Nat) : choosePivot lt (ks.map g) a b = choosePivot lt' ks a b := by
  unfold choosePivot; simp only [nat_medianAdjacent g hd lt lt' hl, nat_median g hd lt lt' hl]
theorem nat_symMerge : ∀ (N a m b : Nat) (ks : Array β), b - a ≤ N → symMerge lt (ks.map g) a m b = (symMerge lt' ks a m b).map g := by
  intro N
  induction N with
  | zero =>
    intro a m b ks h
    conv => lhs; rw [symMerge]
    conv => rhs; rw [symMerge]
    simp only [nat_at g hd, hl, nat_upLoop g hd, nat_downLoop g hd]
    split
    · rfl
    · split
      · rfl
      · rw [dif_neg (by omega), dif_neg (by omega), dif_neg (by omega), dif_neg (by omega), nat_rotate g hd]
        rw [apply_ite (Array.map g)]
  | succ N ih =>
    intro a m b ks h
    conv => lhs; rw [symMerge]
    conv => rhs; rw [symMerge]
    simp only [nat_at g hd, hl, nat_upLoop g hd, nat_downLoop g hd]
    split
    · rfl
    · split
      · rfl
      · generalize bsearch (fun c => !lt' ks[(a + b) / 2 + m - 1 - c]! ks[c]!) (if m > (a + b) / 2 then (a + b) / 2 + m - b else a) (if m > (a + b) / 2 then (a + b) / 2 else m) = st
        have e1 : (if st < m ∧ m < (a + b) / 2 + m - st then rotate (ks.map g) st m ((a + b) / 2 + m - st) else ks.map g) = (if st < m ∧ m < (a + b) / 2 + m - st then rotate ks st m ((a + b) / 2 + m - st) else ks).map g := by
          rw [nat_rotate g hd]; split <;> rfl
        rw [e1]
        generalize (if st < m ∧ m < (a + b) / 2 + m - st then rotate ks st m ((a + b) / 2 + m - st) else ks) = d1
        have e2 : (if _h : (a < st ∧ st < (a + b) / 2) ∧ (a + b) / 2 < b then symMerge lt (d1.map g) a st ((a + b) / 2) else d1.map g) = (if _h : (a < st ∧ st < (a + b) / 2) ∧ (a + b) / 2 < b then symMerge lt' d1 a st ((a + b) / 2) else d1).map g := by
          split
          · exact ih _ _ _ _ (by omega)
          · rfl
        rw [e2]
        generalize (if _h : (a < st ∧ st < (a + b) / 2) ∧ (a + b) / 2 < b then symMerge lt' d1 a st ((a + b) / 2) else d1) = d2
        split
        · exact ih _ _ _ _ (by omega)
        · rfl
theorem nat_insBlocks (s n : Nat) : ∀ (N a : Nat) (ks : Array β), n - a ≤ N → insBlocks lt s n a (ks.map g) = (insBlocks lt' s n a ks).map g := by
  intro N
  induction N with
  | zero => intro a ks h; rw [insBlocks, dif_neg (by omega), insBlocks, dif_neg (by omega), nat_insertionSort g hd lt lt' hl]
  | succ N ih =>
    intro a ks h
    conv => lhs; rw [insBlocks]
    conv => rhs; rw [insBlocks]
    split
    · rw [nat_insertionSort g hd lt lt' hl, ih _ _ (by omega)]
    · rw [nat_insertionSort g hd lt lt' hl]
theorem nat_mergePass (s n : Nat) : ∀ (N a : Nat) (ks : Array β), n - a ≤ N → mergePass lt s n a (ks.map g) = (mergePass lt' s n a ks).map g := by
  intro N
  induction N with
  | zero => intro a ks h; rw [mergePass, dif_neg (by omega), if_neg (by omega), mergePass, dif_neg (by omega), if_neg (by omega)]
  | succ N ih =>
    intro a ks h
    conv => lhs; rw [mergePass]
    conv => rhs; rw [mergePass]
    split
    · rw [nat_symMerge g hd lt lt' hl _ _ _ _ _ (Nat.le_refl _), ih _ _ (by omega)]
    · split
      · rw [nat_symMerge g hd lt lt' hl _ _ _ _ _ (Nat.le_refl _)]
      · rfl
theorem nat_stableLoop (n : Nat) : ∀ (N s : Nat) (ks : Array β), n - s ≤ N → stableLoop lt n s (ks.map g) = (stableLoop lt' n s ks).map g := by
  intro N
  induction N with
  | zero => intro s ks h; rw [stableLoop, dif_neg (by omega), stableLoop, dif_neg (by omega)]
  | succ N ih =>
    intro s ks h
    conv => lhs; rw [stableLoop]
    conv => rhs; rw [stableLoop]
    split
    · rw [nat_mergePass g hd lt lt' hl _ _ _ _ _ (Nat.le_refl _), ih _ _ (by omega)]
    · rfl
theorem nat_stable (ks : Array β) (n : Nat) : stable lt (ks.map g) n = (stable lt' ks n).map g := by
  rw [stable, stable, nat_insBlocks g hd lt lt' hl _ _ _ _ _ (Nat.le_refl _), nat_stableLoop g hd lt lt' hl _ _ _ _ (Nat.le_refl _)]
theorem nat_pdq : ∀ (N : Nat) (ks : Array β) (a b limit : Nat) (wb wp : Bool), b - a ≤ N → pdq lt (ks.map g) a b limit wb wp = (pdq lt' ks a b limit wb wp).map g := by
  intro N
  induction N with
  | zero => intro ks a b limit wb wp h; rw [pdq_small (by omega), pdq_small (by omega), nat_insertionSort g hd lt lt' hl]
  | succ N ih =>
    intro ks a b limit wb wp h
    conv => lhs; rw [pdq_unfold]
    conv => rhs; rw [pdq_unfold]
    obtain ⟨d1, lim, c, d2, pivot, hint, pi, hr⟩ : ∃ d1 lim c d2 pivot hint pi, rd lt' ks a b limit wb wp = ⟨d1, lim, c, d2, pivot, hint, pi⟩ := ⟨_, _, _, _, _, _, _, rfl⟩
    have hr2 : rd lt (ks.map g) a b limit wb wp = ⟨d1.map g, lim, c, d2.map g, pivot, hint, (pi.1.map g, pi.2)⟩ := by
      unfold rd at hr ⊢
      simp only [Rd.mk.injEq] at hr ⊢
      obtain ⟨e1, e2, e3, e4, e5, e6, e7⟩ := hr
      have f1 : (if (!wb) = true then breakPatterns (ks.map g) a b else ks.map g) = d1.map g := by rw [← e1, nat_breakPatterns g hd]; split <;> rfl
      rw [f1]
      rw [e1] at e3 e4 e5 e6 e7
      rw [nat_choosePivot g hd lt lt' hl, e3]
      rw [e3] at e4 e5 e6 e7
      have f4 : (if c.2 = .decreasing then reverseRange (d1.map g) a b else d1.map g) = d2.map g := by rw [← e4, nat_reverseRange g hd]; split <;> rfl
      rw [f4, e5, e6]
      rw [e4, e6] at e7
      refine ⟨rfl, e2, rfl, rfl, rfl, rfl, ?_⟩
      rw [← e7, nat_partialInsertionSort g hd lt lt' hl]
      split <;> rfl
    rw [hr, hr2]
    obtain ⟨p1, p2⟩ := pi
    simp only [nat_at g hd, hl, nat_partitionEqual g hd lt lt' hl, nat_partition g hd lt lt' hl]
    split
    · rw [nat_insertionSort g hd lt lt' hl]
    · split
      · rw [nat_heapSort g hd lt lt' hl]
      · split
        · rfl
        · split
          · split
            · exact ih _ _ _ _ _ _ (by omega)
            · rfl
          · split
            · split
              · rw [ih _ _ _ _ _ _ (by omega), ih _ _ _ _ _ _ (by omega)]
              · rw [ih _ _ _ _ _ _ (by omega), ih _ _ _ _ _ _ (by omega)]
            · rfl
end
end Go.Proofs.YtglgmkikegbchaaGreat

/- The functions that choose, in plain Lean: the places that they tell lie where those that they were given lie. -/
namespace Go.Proofs.YtglgmkikegbchaaGreat
open Go.Sort
variable {α : Type} [Inhabited α] (lt : α → α → Bool)

theorem order2_in (d : Array α) {a b n : Nat} (s : Nat) (ha : a < n) (hb : b < n) : (order2 lt d a b s).1 < n ∧ (order2 lt d a b s).2.1 < n := by
  unfold order2
  split
  · exact ⟨hb, ha⟩
  · exact ⟨ha, hb⟩
theorem median_in (d : Array α) {a b c n : Nat} (s : Nat) (ha : a < n) (hb : b < n) (hc : c < n) : (median lt d a b c s).1 < n := by
  unfold median
  have h1 := order2_in lt d s ha hb
  have h2 := order2_in lt d (order2 lt d a b s).2.2 h1.2 hc
  exact (order2_in lt d _ h1.1 h2.1).2
theorem medianAdjacent_in (d : Array α) {a n : Nat} (s : Nat) (ha : a + 1 < n) : (medianAdjacent lt d a s).1 < n := median_in lt d s (by omega) (by omega) ha

/-- The rest of breakPatterns: so many rounds from the t-th on. -/
def bpRest (a L M i0 : Nat) : Nat → Nat → UInt64 × Array α → Array α
  | 0, _, st => st.2
  | k + 1, t, st => bpRest a L M i0 k (t + 1) (breakStep a L M st (i0 + t))
theorem bpRest_step (a L M i0 t : Nat) (r : UInt64) (d : Array α) (o : Nat) (ht : t < 3) (ho : (if (xorNext r).toNat &&& (M - 1) ≥ L then ((xorNext r).toNat &&& (M - 1)) - L else (xorNext r).toNat &&& (M - 1)) = o) :
    bpRest a L M i0 (3 - t) t (r, d) = bpRest a L M i0 (3 - (t + 1)) (t + 1) (xorNext r, swp d (i0 + t) (a + o)) := by
  rw [show 3 - t = (3 - (t + 1)) + 1 by omega, bpRest, breakStep]
  simp only []
  rw [ho]
theorem breakPatterns_rest (d : Array α) (a b : Nat) (h : 8 ≤ b - a) : breakPatterns d a b = bpRest a (b - a) (1 <<< bitsLen (b - a)) (a + (b - a) / 4 * 2 - 1) 3 0 (UInt64.ofNat (b - a), d) := by
  unfold breakPatterns
  simp only []
  rw [if_pos h]
  rfl
theorem breakPatterns_few (d : Array α) (a b : Nat) (h : ¬ 8 ≤ b - a) : breakPatterns d a b = d := by
  unfold breakPatterns
  simp only []
  rw [if_neg h]

/-- What stands where, when a part has been turned round. -/
theorem reverseLoop_get : ∀ (N i j : Nat) (d : Array α), j - i ≤ N → j < d.size → ∀ k, (reverseLoop i j d)[k]! = if i ≤ k ∧ k ≤ j then d[i + j - k]! else d[k]! := by
  intro N
  induction N with
  | zero =>
    intro i j d h hj k
    rw [reverseLoop, if_neg (by omega)]
    split
    · congr 1; omega
    · rfl
  | succ N ih =>
    intro i j d h hj k
    rw [reverseLoop]
    split
    · rename_i hij
      rw [ih (i + 1) (j - 1) (swp d i j) (by omega) (by rw [size_swp]; omega) k, swp_at d (by omega) hj, swp_at d (by omega) hj]
      by_cases h1 : i + 1 ≤ k ∧ k ≤ j - 1
      · rw [if_pos h1, if_neg (by omega), if_neg (by omega), if_pos (by omega)]; congr 1; omega
      · rw [if_neg h1]
        by_cases h2 : k = j
        · subst h2; rw [if_pos rfl, if_pos (by omega)]; congr 1; omega
        · rw [if_neg h2]
          by_cases h3 : k = i
          · subst h3; rw [if_pos rfl, if_pos (by omega)]; congr 1; omega
          · rw [if_neg h3, if_neg (by omega)]
    · split
      · congr 1; omega
      · rfl
theorem reverseRange_get (d : Array α) (a b i : Nat) (hb : b ≤ d.size) (h : i < b - a) : (reverseRange d a b)[a + i]! = d[b - 1 - i]! := by
  rw [reverseRange, reverseLoop_get _ a (b - 1) d (Nat.le_refl _) (by omega), if_pos (by omega)]
  congr 1; omega
end Go.Proofs.YtglgmkikegbchaaGreat
