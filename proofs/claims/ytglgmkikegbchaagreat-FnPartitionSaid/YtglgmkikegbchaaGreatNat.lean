/- The functions of sorting know nothing of the elements but what comes of comparing: they commute with what leaves comparing as it is. -/
import Derived.Sort.LotD4
import Derived.Sort.Walk13a
import Derived.Test.YtglgmkikegbchaaGreatPb
namespace Go.Proofs.YtglgmkikegbchaaGreat
open Go.Sort
section
variable {α β : Type} [Inhabited α] [Inhabited β] (g : β → α) (hd : g default = default)
include hd

theorem nat_at (ks : Array β) (i : Nat) : (ks.map g)[i]! = g ks[i]! := by
  rcases Nat.lt_or_ge i ks.size with h | h
  · rw [getElem!_pos _ i (by simpa using h), getElem!_pos ks i h]; simp
  · rw [getElem!_neg _ i (by simp; omega), getElem!_neg ks i (by omega), hd]
theorem nat_swp (ks : Array β) (i j : Nat) : swp (ks.map g) i j = (swp ks i j).map g := by
  unfold swp
  rw [Array.map_setIfInBounds, Array.map_setIfInBounds, nat_at g hd, nat_at g hd]
theorem nat_swapLoop (a b : Nat) : ∀ (k i : Nat) (ks : Array β), swapLoop a b k i (ks.map g) = (swapLoop a b k i ks).map g
  | 0, _, _ => rfl
  | k + 1, i, ks => by rw [swapLoop, swapLoop, nat_swp g hd, nat_swapLoop a b k]
theorem nat_swapRange (ks : Array β) (a b n : Nat) : swapRange (ks.map g) a b n = (swapRange ks a b n).map g := nat_swapLoop g hd a b n 0 ks
theorem nat_reverseLoop : ∀ (N i j : Nat) (ks : Array β), j - i ≤ N → reverseLoop i j (ks.map g) = (reverseLoop i j ks).map g := by
  intro N
  induction N with
  | zero => intro i j ks h; rw [reverseLoop, if_neg (by omega), reverseLoop, if_neg (by omega)]
  | succ N ih =>
    intro i j ks h
    conv => lhs; rw [reverseLoop]
    conv => rhs; rw [reverseLoop]
    split
    · rw [nat_swp g hd, ih _ _ _ (by omega)]
    · rfl
theorem nat_reverseRange (ks : Array β) (a b : Nat) : reverseRange (ks.map g) a b = (reverseRange ks a b).map g := nat_reverseLoop g hd _ a (b - 1) ks (Nat.le_refl _)
theorem nat_rotLoop (m : Nat) : ∀ (N i j : Nat) (ks : Array β), i + j ≤ N → rotLoop m i j (ks.map g) = (rotLoop m i j ks).map g := by
  intro N
  induction N with
  | zero =>
    intro i j ks h
    obtain rfl : i = 0 := by omega
    obtain rfl : j = 0 := by omega
    conv => lhs; rw [rotLoop, if_pos rfl]
    conv => rhs; rw [rotLoop, if_pos rfl]
    exact nat_swapRange g hd _ _ _ _
  | succ N ih =>
    intro i j ks h
    conv => lhs; rw [rotLoop]
    conv => rhs; rw [rotLoop]
    split
    · exact nat_swapRange g hd _ _ _ _
    · split
      · split
        · rw [nat_swapRange g hd, ih _ _ _ (by omega)]
        · rfl
      · split
        · rw [nat_swapRange g hd, ih _ _ _ (by omega)]
        · rfl
theorem nat_rotate (ks : Array β) (a m b : Nat) : rotate (ks.map g) a m b = (rotate ks a m b).map g := nat_rotLoop g hd m _ _ _ ks (Nat.le_refl _)
theorem nat_breakStep (a L M : Nat) (r : UInt64) (ks : Array β) (i : Nat) : breakStep a L M (r, ks.map g) i = ((breakStep a L M (r, ks) i).1, (breakStep a L M (r, ks) i).2.map g) := by
  unfold breakStep
  simp only [nat_swp g hd]
theorem nat_breakPatterns (ks : Array β) (a b : Nat) : breakPatterns (ks.map g) a b = (breakPatterns ks a b).map g := by
  unfold breakPatterns
  simp only []
  split
  · rw [nat_breakStep g hd, nat_breakStep g hd, nat_breakStep g hd]
  · rfl
theorem nat_upLoop : ∀ (n k : Nat) (ks : Array β), upLoop n k (ks.map g) = (upLoop n k ks).map g
  | 0, _, _ => rfl
  | n + 1, k, ks => by rw [upLoop, upLoop, nat_swp g hd, nat_upLoop n]
theorem nat_downLoop : ∀ (n k : Nat) (ks : Array β), downLoop n k (ks.map g) = (downLoop n k ks).map g
  | 0, _, _ => rfl
  | n + 1, k, ks => by rw [downLoop, downLoop, nat_swp g hd, nat_downLoop n]

variable (lt : α → α → Bool) (lt' : β → β → Bool) (hl : ∀ x y, lt (g x) (g y) = lt' x y)
include hl

theorem nat_insInner (a : Nat) : ∀ (j : Nat) (ks : Array β), insInner lt a j (ks.map g) = (insInner lt' a j ks).map g
  | 0, _ => rfl
  | j + 1, ks => by
    rw [insInner, insInner, nat_at g hd, nat_at g hd, hl]
    split
    · rw [nat_swp g hd, nat_insInner a j]
    · rfl
theorem nat_insOuter (a b : Nat) : ∀ (N i : Nat) (ks : Array β), b - i ≤ N → insOuter lt a b i (ks.map g) = (insOuter lt' a b i ks).map g := by
  intro N
  induction N with
  | zero => intro i ks h; rw [insOuter, if_neg (by omega), insOuter, if_neg (by omega)]
  | succ N ih =>
    intro i ks h
    conv => lhs; rw [insOuter]
    conv => rhs; rw [insOuter]
    split
    · rw [nat_insInner g hd lt lt' hl, ih _ _ (by omega)]
    · rfl
theorem nat_insertionSort (ks : Array β) (a b : Nat) : insertionSort lt (ks.map g) a b = (insertionSort lt' ks a b).map g := nat_insOuter g hd lt lt' hl a b _ _ ks (Nat.le_refl _)
theorem nat_siftDown (hi first : Nat) : ∀ (N r : Nat) (ks : Array β), hi - r ≤ N → siftDown lt hi first r (ks.map g) = (siftDown lt' hi first r ks).map g := by
  intro N
  induction N with
  | zero => intro r ks h; rw [siftDown, dif_pos (by omega), siftDown, dif_pos (by omega)]
  | succ N ih =>
    intro r ks h
    conv => lhs; rw [siftDown]
    conv => rhs; rw [siftDown]
    simp only [nat_at g hd, hl, nat_swp g hd]
    split
    · rfl
    · split
      · split
        · rfl
        · split
          · exact ih _ _ (by omega)
          · rfl
      · split
        · rfl
        · exact ih _ _ (by omega)
theorem nat_heapBuild (hi first : Nat) : ∀ (k : Nat) (ks : Array β), heapBuild lt hi first k (ks.map g) = (heapBuild lt' hi first k ks).map g
  | 0, _ => rfl
  | k + 1, ks => by rw [heapBuild, heapBuild, nat_siftDown g hd lt lt' hl hi first _ _ _ (Nat.le_refl _), nat_heapBuild hi first k]
theorem nat_heapPop (first : Nat) : ∀ (k : Nat) (ks : Array β), heapPop lt first k (ks.map g) = (heapPop lt' first k ks).map g
  | 0, _ => rfl
  | k + 1, ks => by rw [heapPop, heapPop, nat_swp g hd, nat_siftDown g hd lt lt' hl _ first _ _ _ (Nat.le_refl _), nat_heapPop first k]
theorem nat_heapSort (ks : Array β) (a b : Nat) : heapSort lt (ks.map g) a b = (heapSort lt' ks a b).map g := by
  rw [heapSort, heapSort, nat_heapBuild g hd lt lt' hl, nat_heapPop g hd lt lt' hl]
omit hl in
theorem nat_scanUp (p : α → Bool) (p' : β → Bool) (hp : ∀ x, p (g x) = p' x) (ks : Array β) (j : Nat) : ∀ (N i : Nat), j + 1 - i ≤ N → scanUp p (ks.map g) j i = scanUp p' ks j i := by
  intro N
  induction N with
  | zero => intro i h; rw [scanUp, if_neg (by simp; omega), scanUp, if_neg (by simp; omega)]
  | succ N ih =>
    intro i h
    conv => lhs; rw [scanUp]
    conv => rhs; rw [scanUp]
    rw [nat_at g hd, hp]
    split
    · rename_i hc
      simp only [Bool.and_eq_true, decide_eq_true_eq] at hc
      exact ih _ (by omega)
    · rfl
omit hl in
theorem nat_scanDown (p : α → Bool) (p' : β → Bool) (hp : ∀ x, p (g x) = p' x) (ks : Array β) (i : Nat) : ∀ j, scanDown p (ks.map g) i j = scanDown p' ks i j
  | 0 => rfl
  | j + 1 => by
    rw [scanDown, scanDown, nat_at g hd, hp]
    split
    · exact nat_scanDown p p' hp ks i j
    · rfl
theorem nat_partLoop (a : Nat) : ∀ (N i j : Nat) (ks : Array β), j + 1 - i ≤ N → partLoop lt a i j (ks.map g) = ((partLoop lt' a i j ks).1, (partLoop lt' a i j ks).2.map g) := by
  intro N
  induction N with
  | zero =>
    intro i j ks h
    conv => lhs; rw [partLoop_eq]
    conv => rhs; rw [partLoop_eq]
    have e1 := nat_scanUp g hd (fun x => lt x (ks.map g)[a]!) (fun x => lt' x ks[a]!) (fun x => by rw [nat_at g hd, hl]) ks j _ i (Nat.le_refl _)
    rw [e1]
    have e2 := nat_scanDown g hd (fun x => !lt x (ks.map g)[a]!) (fun x => !lt' x ks[a]!) (fun x => by rw [nat_at g hd, hl]) ks (scanUp (fun x => lt' x ks[a]!) ks j i) j
    rw [e2]
    obtain ⟨u1, _⟩ := scanUp_spec (fun x => lt' x ks[a]!) ks j _ i rfl
    obtain ⟨v1, _⟩ := scanDown_spec (fun x => !lt' x ks[a]!) ks (scanUp (fun x => lt' x ks[a]!) ks j i) j
    rw [if_pos (by omega), if_pos (by omega)]
  | succ N ih =>
    intro i j ks h
    conv => lhs; rw [partLoop_eq]
    conv => rhs; rw [partLoop_eq]
    have e1 := nat_scanUp g hd (fun x => lt x (ks.map g)[a]!) (fun x => lt' x ks[a]!) (fun x => by rw [nat_at g hd, hl]) ks j _ i (Nat.le_refl _)
    rw [e1]
    have e2 := nat_scanDown g hd (fun x => !lt x (ks.map g)[a]!) (fun x => !lt' x ks[a]!) (fun x => by rw [nat_at g hd, hl]) ks (scanUp (fun x => lt' x ks[a]!) ks j i) j
    rw [e2]
    obtain ⟨u1, _⟩ := scanUp_spec (fun x => lt' x ks[a]!) ks j _ i rfl
    obtain ⟨v1, _⟩ := scanDown_spec (fun x => !lt' x ks[a]!) ks (scanUp (fun x => lt' x ks[a]!) ks j i) j
    split
    · rfl
    · rw [nat_swp g hd]; exact ih _ _ _ (by omega)
theorem nat_partition (ks : Array β) (a b pv : Nat) : partition lt (ks.map g) a b pv = ((partition lt' ks a b pv).1, (partition lt' ks a b pv).2.1, (partition lt' ks a b pv).2.2.map g) := by
  unfold partition
  simp only [nat_swp g hd]
  generalize swp ks a pv = d
  have e1 := nat_scanUp g hd (fun x => lt x (d.map g)[a]!) (fun x => lt' x d[a]!) (fun x => by rw [nat_at g hd, hl]) d (b - 1) _ (a + 1) (Nat.le_refl _)
  rw [e1]
  have e2 := nat_scanDown g hd (fun x => !lt x (d.map g)[a]!) (fun x => !lt' x d[a]!) (fun x => by rw [nat_at g hd, hl]) d (scanUp (fun x => lt' x d[a]!) d (b - 1) (a + 1)) (b - 1)
  rw [e2]
  split
  · rfl
  · rw [nat_partLoop g hd lt lt' hl a _ _ _ _ (Nat.le_refl _), nat_swp g hd]
theorem nat_partEqLoop (a : Nat) : ∀ (N i j : Nat) (ks : Array β), j + 1 - i ≤ N → partEqLoop lt a i j (ks.map g) = ((partEqLoop lt' a i j ks).1, (partEqLoop lt' a i j ks).2.map g) := by
  intro N
  induction N with
  | zero =>
    intro i j ks h
    conv => lhs; rw [partEqLoop_eq]
    conv => rhs; rw [partEqLoop_eq]
    have e1 := nat_scanUp g hd (fun x => !lt (ks.map g)[a]! x) (fun x => !lt' ks[a]! x) (fun x => by rw [nat_at g hd, hl]) ks j _ i (Nat.le_refl _)
    rw [e1]
    have e2 := nat_scanDown g hd (fun x => lt (ks.map g)[a]! x) (fun x => lt' ks[a]! x) (fun x => by rw [nat_at g hd, hl]) ks (scanUp (fun x => !lt' ks[a]! x) ks j i) j
    rw [e2]
    obtain ⟨u1, _⟩ := scanUp_spec (fun x => !lt' ks[a]! x) ks j _ i rfl
    obtain ⟨v1, _⟩ := scanDown_spec (fun x => lt' ks[a]! x) ks (scanUp (fun x => !lt' ks[a]! x) ks j i) j
    rw [if_pos (by omega), if_pos (by omega)]
  | succ N ih =>
    intro i j ks h
    conv => lhs; rw [partEqLoop_eq]
    conv => rhs; rw [partEqLoop_eq]
    have e1 := nat_scanUp g hd (fun x => !lt (ks.map g)[a]! x) (fun x => !lt' ks[a]! x) (fun x => by rw [nat_at g hd, hl]) ks j _ i (Nat.le_refl _)
    rw [e1]
    have e2 := nat_scanDown g hd (fun x => lt (ks.map g)[a]! x) (fun x => lt' ks[a]! x) (fun x => by rw [nat_at g hd, hl]) ks (scanUp (fun x => !lt' ks[a]! x) ks j i) j
    rw [e2]
    obtain ⟨u1, _⟩ := scanUp_spec (fun x => !lt' ks[a]! x) ks j _ i rfl
    obtain ⟨v1, _⟩ := scanDown_spec (fun x => lt' ks[a]! x) ks (scanUp (fun x => !lt' ks[a]! x) ks j i) j
    split
    · rfl
    · rw [nat_swp g hd]; exact ih _ _ _ (by omega)
theorem nat_partitionEqual (ks : Array β) (a b pv : Nat) : partitionEqual lt (ks.map g) a b pv = ((partitionEqual lt' ks a b pv).1, (partitionEqual lt' ks a b pv).2.map g) := by
  unfold partitionEqual
  rw [nat_swp g hd, nat_partEqLoop g hd lt lt' hl a _ _ _ _ (Nat.le_refl _)]
theorem nat_scanSorted (ks : Array β) (b : Nat) : ∀ (N i : Nat), b - i ≤ N → scanSorted lt (ks.map g) b i = scanSorted lt' ks b i := by
  intro N
  induction N with
  | zero => intro i h; rw [scanSorted, if_neg (by simp; omega), scanSorted, if_neg (by simp; omega)]
  | succ N ih =>
    intro i h
    conv => lhs; rw [scanSorted]
    conv => rhs; rw [scanSorted]
    rw [nat_at g hd, nat_at g hd, hl]
    split
    · rename_i hc
      simp only [Bool.and_eq_true, decide_eq_true_eq] at hc
      exact ih _ (by omega)
    · rfl
theorem nat_shiftDown : ∀ (j : Nat) (ks : Array β), shiftDown lt j (ks.map g) = (shiftDown lt' j ks).map g
  | 0, _ => rfl
  | j + 1, ks => by
    rw [shiftDown, shiftDown, nat_at g hd, nat_at g hd, hl]
    split
    · rfl
    · rw [nat_swp g hd, nat_shiftDown j]
theorem nat_shiftUp (b : Nat) : ∀ (N j : Nat) (ks : Array β), b - j ≤ N → shiftUp lt b j (ks.map g) = (shiftUp lt' b j ks).map g := by
  intro N
  induction N with
  | zero => intro j ks h; rw [shiftUp, if_neg (by omega), shiftUp, if_neg (by omega)]
  | succ N ih =>
    intro j ks h
    conv => lhs; rw [shiftUp]
    conv => rhs; rw [shiftUp]
    rw [nat_at g hd, nat_at g hd, hl]
    split
    · split
      · rfl
      · rw [nat_swp g hd]; exact ih _ _ (by omega)
    · rfl
theorem nat_partialIns (a b : Nat) : ∀ (s i : Nat) (ks : Array β), partialIns lt a b s i (ks.map g) = ((partialIns lt' a b s i ks).1.map g, (partialIns lt' a b s i ks).2)
  | 0, _, _ => rfl
  | s + 1, i, ks => by
    rw [partialIns, partialIns, nat_scanSorted g hd lt lt' hl ks b _ _ (Nat.le_refl _)]
    generalize scanSorted lt' ks b i = k
    simp only []
    split
    · rfl
    · split
      · rfl
      · have e1 : (if k - a ≥ 2 then shiftDown lt (k - 1) (swp (ks.map g) k (k - 1)) else swp (ks.map g) k (k - 1)) = (if k - a ≥ 2 then shiftDown lt' (k - 1) (swp ks k (k - 1)) else swp ks k (k - 1)).map g := by
          rw [nat_swp g hd, nat_shiftDown g hd lt lt' hl]; split <;> rfl
        rw [e1]
        generalize (if k - a ≥ 2 then shiftDown lt' (k - 1) (swp ks k (k - 1)) else swp ks k (k - 1)) = d2
        have e2 : (if b - k ≥ 2 then shiftUp lt b (k + 1) (d2.map g) else d2.map g) = (if b - k ≥ 2 then shiftUp lt' b (k + 1) d2 else d2).map g := by
          rw [nat_shiftUp g hd lt lt' hl b _ _ _ (Nat.le_refl _)]; split <;> rfl
        rw [e2]
        exact nat_partialIns a b s k _
theorem nat_partialInsertionSort (ks : Array β) (a b : Nat) : partialInsertionSort lt (ks.map g) a b = ((partialInsertionSort lt' ks a b).1.map g, (partialInsertionSort lt' ks a b).2) := nat_partialIns g hd lt lt' hl a b 5 (a + 1) ks
theorem nat_order2 (ks : Array β) (a b s : Nat) : order2 lt (ks.map g) a b s = order2 lt' ks a b s := by
  unfold order2; rw [nat_at g hd, nat_at g hd, hl]
theorem nat_median (ks : Array β) (a b c s : Nat) : median lt (ks.map g) a b c s = median lt' ks a b c s := by
  unfold median; simp only [nat_order2 g hd lt lt' hl]
theorem nat_medianAdjacent (ks : Array β) (a s : Nat) : medianAdjacent lt (ks.map g) a s = medianAdjacent lt' ks a s := nat_median g hd lt lt' hl ks _ _ _ s
theorem nat_choosePivot (ks : Array β) (a b : Nat) : choosePivot lt (ks.map g) a b = choosePivot lt' ks a b := by
  unfold choosePivot; simp only [nat_medianAdjacent g hd lt lt' hl, nat_median g hd lt lt' hl]
theorem nat_symMerge : ∀ (N a m b : Nat) (ks : Array β), b - a ≤ N → symMerge lt (ks.map g) a m b = (symMerge lt' ks a m b).map g := by
  intro N
  induction N with
  | zero =>
    intro a m b ks h
    conv => lhs; rw [symMerge]
    conv => rhs; rw [symMerge]
    simp only [nat_at g hd, hl, nat_upLoop g hd, nat_downLoop g hd]
    split
    · rfl
    · split
      · rfl
      · rw [dif_neg (by omega), dif_neg (by omega), dif_neg (by omega), dif_neg (by omega), nat_rotate g hd]
        rw [apply_ite (Array.map g)]
  | succ N ih =>
    intro a m b ks h
    conv => lhs; rw [symMerge]
    conv => rhs; rw [symMerge]
    simp only [nat_at g hd, hl, nat_upLoop g hd, nat_downLoop g hd]
    split
    · rfl
    · split
      · rfl
      · generalize bsearch (fun c => !lt' ks[(a + b) / 2 + m - 1 - c]! ks[c]!) (if m > (a + b) / 2 then (a + b) / 2 + m - b else a) (if m > (a + b) / 2 then (a + b) / 2 else m) = st
        have e1 : (if st < m ∧ m < (a + b) / 2 + m - st then rotate (ks.map g) st m ((a + b) / 2 + m - st) else ks.map g) = (if st < m ∧ m < (a + b) / 2 + m - st then rotate ks st m ((a + b) / 2 + m - st) else ks).map g := by
          rw [nat_rotate g hd]; split <;> rfl
        rw [e1]
        generalize (if st < m ∧ m < (a + b) / 2 + m - st then rotate ks st m ((a + b) / 2 + m - st) else ks) = d1
        have e2 : (if _h : (a < st ∧ st < (a + b) / 2) ∧ (a + b) / 2 < b then symMerge lt (d1.map g) a st ((a + b) / 2) else d1.map g) = (if _h : (a < st ∧ st < (a + b) / 2) ∧ (a + b) / 2 < b then symMerge lt' d1 a st ((a + b) / 2) else d1).map g := by
          split
          · exact ih _ _ _ _ (by omega)
          · rfl
        rw [e2]
        generalize (if _h : (a < st ∧ st < (a + b) / 2) ∧ (a + b) / 2 < b then symMerge lt' d1 a st ((a + b) / 2) else d1) = d2
        split
        · exact ih _ _ _ _ (by omega)
        · rfl
theorem nat_insBlocks (s n : Nat) : ∀ (N a : Nat) (ks : Array β), n - a ≤ N → insBlocks lt s n a (ks.map g) = (insBlocks lt' s n a ks).map g := by
  intro N
  induction N with
  | zero => intro a ks h; rw [insBlocks, dif_neg (by omega), insBlocks, dif_neg (by omega), nat_insertionSort g hd lt lt' hl]
  | succ N ih =>
    intro a ks h
    conv => lhs; rw [insBlocks]
    conv => rhs; rw [insBlocks]
    split
    · rw [nat_insertionSort g hd lt lt' hl, ih _ _ (by omega)]
    · rw [nat_insertionSort g hd lt lt' hl]
theorem nat_mergePass (s n : Nat) : ∀ (N a : Nat) (ks : Array β), n - a ≤ N → mergePass lt s n a (ks.map g) = (mergePass lt' s n a ks).map g := by
  intro N
  induction N with
  | zero => intro a ks h; rw [mergePass, dif_neg (by omega), if_neg (by omega), mergePass, dif_neg (by omega), if_neg (by omega)]
  | succ N ih =>
    intro a ks h
    conv => lhs; rw [mergePass]
    conv => rhs; rw [mergePass]
    split
    · rw [nat_symMerge g hd lt lt' hl _ _ _ _ _ (Nat.le_refl _), ih _ _ (by omega)]
    · split
      · rw [nat_symMerge g hd lt lt' hl _ _ _ _ _ (Nat.le_refl _)]
      · rfl
theorem nat_stableLoop (n : Nat) : ∀ (N s : Nat) (ks : Array β), n - s ≤ N → stableLoop lt n s (ks.map g) = (stableLoop lt' n s ks).map g := by
  intro N
  induction N with
  | zero => intro s ks h; rw [stableLoop, dif_neg (by omega), stableLoop, dif_neg (by omega)]
  | succ N ih =>
    intro s ks h
    conv => lhs; rw [stableLoop]
    conv => rhs; rw [stableLoop]
    split
    · rw [nat_mergePass g hd lt lt' hl _ _ _ _ _ (Nat.le_refl _), ih _ _ (by omega)]
    · rfl
theorem nat_stable (ks : Array β) (n : Nat) : stable lt (ks.map g) n = (stable lt' ks n).map g := by
  rw [stable, stable, nat_insBlocks g hd lt lt' hl _ _ _ _ _ (Nat.le_refl _), nat_stableLoop g hd lt lt' hl _ _ _ _ (Nat.le_refl _)]
theorem nat_pdq : ∀ (N : Nat) (ks : Array β) (a b limit : Nat) (wb wp : Bool), b - a ≤ N → pdq lt (ks.map g) a b limit wb wp = (pdq lt' ks a b limit wb wp).map g := by
  intro N
  induction N with
  | zero => intro ks a b limit wb wp h; rw [pdq_small (by omega), pdq_small (by omega), nat_insertionSort g hd lt lt' hl]
  | succ N ih =>
    intro ks a b limit wb wp h
    conv => lhs; rw [pdq_unfold]
    conv => rhs; rw [pdq_unfold]
    obtain ⟨d1, lim, c, d2, pivot, hint, pi, hr⟩ : ∃ d1 lim c d2 pivot hint pi, rd lt' ks a b limit wb wp = ⟨d1, lim, c, d2, pivot, hint, pi⟩ := ⟨_, _, _, _, _, _, _, rfl⟩
    have hr2 : rd lt (ks.map g) a b limit wb wp = ⟨d1.map g, lim, c, d2.map g, pivot, hint, (pi.1.map g, pi.2)⟩ := by
      unfold rd at hr ⊢
      simp only [Rd.mk.injEq] at hr ⊢
      obtain ⟨e1, e2, e3, e4, e5, e6, e7⟩ := hr
      have f1 : (if (!wb) = true then breakPatterns (ks.map g) a b else ks.map g) = d1.map g := by rw [← e1, nat_breakPatterns g hd]; split <;> rfl
      rw [f1]
      rw [e1] at e3 e4 e5 e6 e7
      rw [nat_choosePivot g hd lt lt' hl, e3]
      rw [e3] at e4 e5 e6 e7
      have f4 : (if c.2 = .decreasing then reverseRange (d1.map g) a b else d1.map g) = d2.map g := by rw [← e4, nat_reverseRange g hd]; split <;> rfl
      rw [f4, e5, e6]
      rw [e4, e6] at e7
      refine ⟨rfl, e2, rfl, rfl, rfl, rfl, ?_⟩
      rw [← e7, nat_partialInsertionSort g hd lt lt' hl]
      split <;> rfl
    rw [hr, hr2]
    obtain ⟨p1, p2⟩ := pi
    simp only [nat_at g hd, hl, nat_partitionEqual g hd lt lt' hl, nat_partition g hd lt lt' hl]
    split
    · rw [nat_insertionSort g hd lt lt' hl]
    · split
      · rw [nat_heapSort g hd lt lt' hl]
      · split
        · rfl
        · split
          · split
            · exact ih _ _ _ _ _ _ (by omega)
            · rfl
          · split
            · split
              · rw [ih _ _ _ _ _ _ (by omega), ih _ _ _ _ _ _ (by omega)]
              · rw [ih _ _ _ _ _ _ (by omega), ih _ _ _ _ _ _ (by omega)]
            · rfl
end
end Go.Proofs.YtglgmkikegbchaaGreat
