/- One round of pdqsort, whatever comes of comparing: its stages, each behind a name; and the merging of blocks, step by step. -/
import Derived.Test.YtglgmkikegbchaaPb
import Derived.Sort.Walk13a
namespace Go.Proofs.Ytglgmkikegbchaa
open Go.Sort

/-- The stages of a round of pdq from (dk, x, y, lim, wb, wp). -/
structure Stages {α : Type} [Inhabited α] (lt : α → α → Bool) (dk : Array α) (x y lim : Nat) (wb wp : Bool) (d1 : Array α) (l1 c1 : Nat) (c2 : Hint) (d2 : Array α) (pv : Nat) (ht : Hint) (pb : Bool) (d3 : Array α) : Prop where
  le : l1 ≤ lim
  s1 : d1.size = dk.size
  s2 : d2.size = dk.size
  s3 : d3.size = dk.size
  bal : wb = true → d1 = dk ∧ l1 = lim
  unb : wb = false → d1 = breakPatterns dk x y ∧ l1 = lim - 1
  ch : choosePivot lt d1 x y = (c1, c2)
  lo : x ≤ c1
  hi : c1 < y
  dec : c2 = .decreasing → d2 = reverseRange d1 x y ∧ pv = (y - 1) - (c1 - x) ∧ ht = .increasing
  ndec : c2 ≠ .decreasing → d2 = d1 ∧ pv = c1 ∧ ht = c2
  plo : x ≤ pv
  phi : pv < y
  yes : (wb && wp && decide (ht = .increasing)) = true → partialInsertionSort lt d2 x y = (d3, pb)
  no : (wb && wp && decide (ht = .increasing)) = false → d3 = d2 ∧ pb = false
  fin : pb = true → pdq lt dk x y lim wb wp = d3
  same : pb = false → 0 < x → lt d3[x - 1]! d3[pv]! = false → ∀ mid d4, partitionEqual lt d3 x y pv = (mid, d4) → x < mid ∧ mid ≤ y ∧ d4.size = dk.size ∧ pdq lt dk x y lim wb wp = pdq lt d4 mid y l1 wb wp
  part : pb = false → (x = 0 ∨ lt d3[x - 1]! d3[pv]! = true) → ∀ mid ap d4, partition lt d3 x y pv = (mid, ap, d4) → x ≤ mid ∧ mid < y ∧ d4.size = dk.size ∧
    (mid - x < y - mid → pdq lt dk x y lim wb wp = pdq lt (pdq lt d4 x mid l1 true true) (mid + 1) y l1 (decide (mid - x ≥ (y - x) / 8)) ap) ∧
    (¬ mid - x < y - mid → pdq lt dk x y lim wb wp = pdq lt (pdq lt d4 (mid + 1) y l1 true true) x mid l1 (decide (y - mid ≥ (y - x) / 8)) ap)

theorem stages {α : Type} [Inhabited α] (lt : α → α → Bool) (dk : Array α) (x y lim : Nat) (wb wp : Bool) (h12 : ¬ y - x ≤ 12) (hl : ¬ lim = 0) (hb : y ≤ dk.size) :
    ∃ d1 l1 c1 c2 d2 pv ht pb d3, Stages lt dk x y lim wb wp d1 l1 c1 c2 d2 pv ht pb d3 := by
  have hxy : x < y := by omega
  have p1 : PermIn 0 y dk (rd lt dk x y lim wb wp).d1 := break_any dk (Nat.le_of_lt hxy) hb ((!wb) = true)
  have b1 : y ≤ (rd lt dk x y lim wb wp).d1.size := by rw [p1.1]; exact hb
  have c1 : x ≤ (rd lt dk x y lim wb wp).c.1 ∧ (rd lt dk x y lim wb wp).c.1 < y := choosePivot_holds lt (rd lt dk x y lim wb wp).d1 x y hxy
  have p2 : PermIn 0 y (rd lt dk x y lim wb wp).d1 (rd lt dk x y lim wb wp).d2 := reverse_any (rd lt dk x y lim wb wp).d1 (Nat.le_of_lt hxy) b1 ((rd lt dk x y lim wb wp).c.2 = .decreasing)
  have b2 : y ≤ (rd lt dk x y lim wb wp).d2.size := by rw [p2.1]; exact b1
  have pv : x ≤ (rd lt dk x y lim wb wp).pivot ∧ (rd lt dk x y lim wb wp).pivot < y := pivot_range c1.1 c1.2 ((rd lt dk x y lim wb wp).c.2 = .decreasing)
  have p3 : PermIn 0 y (rd lt dk x y lim wb wp).d2 (rd lt dk x y lim wb wp).pi.1 := partial_any (lt := lt) (rd lt dk x y lim wb wp).d2 hxy b2 ((wb && wp && decide ((rd lt dk x y lim wb wp).hint = .increasing)) = true)
  have s2 : (rd lt dk x y lim wb wp).d2.size = dk.size := p2.1.trans p1.1
  have s3 : (rd lt dk x y lim wb wp).pi.1.size = dk.size := p3.1.trans s2
  have b3 : y ≤ (rd lt dk x y lim wb wp).pi.1.size := by rw [s3]; exact hb
  refine ⟨(rd lt dk x y lim wb wp).d1, (rd lt dk x y lim wb wp).lim, (rd lt dk x y lim wb wp).c.1, (rd lt dk x y lim wb wp).c.2, (rd lt dk x y lim wb wp).d2, (rd lt dk x y lim wb wp).pivot, (rd lt dk x y lim wb wp).hint, (rd lt dk x y lim wb wp).pi.2, (rd lt dk x y lim wb wp).pi.1, ?_⟩
  refine ⟨rd_lim_le, p1.1, s2, s3, ?_, ?_, rfl, c1.1, c1.2, fun h => rd_dec h, fun h => rd_not h, pv.1, pv.2, fun h => (rd_pi_yes h).symm, fun h => ?_, fun h => pdq_done h12 hl h, ?_, ?_⟩
  · intro h; subst h; exact rd_true
  · intro h; subst h; exact rd_false
  · rw [rd_pi_no h]; exact ⟨rfl, rfl⟩
  · intro hp h0 hlt mid d4 hx
    have r := partitionEqual_any (lt := lt) (rd lt dk x y lim wb wp).pi.1 x y _ pv.1 pv.2 b3
    have h2 : (decide (x > 0) && !lt (rd lt dk x y lim wb wp).pi.1[x - 1]! (rd lt dk x y lim wb wp).pi.1[(rd lt dk x y lim wb wp).pivot]!) = true := by rw [hlt, decide_eq_true h0]; rfl
    have e := pdq_eq h12 hl hp h2 ⟨r.1, r.2.1⟩
    rw [hx] at r e
    exact ⟨r.1, r.2.1, r.2.2.1.trans s3, e⟩
  · intro hp hor mid ap d4 hx
    have r := partition_any (lt := lt) (rd lt dk x y lim wb wp).pi.1 x y _ pv.1 pv.2 b3
    have h2 : (decide (x > 0) && !lt (rd lt dk x y lim wb wp).pi.1[x - 1]! (rd lt dk x y lim wb wp).pi.1[(rd lt dk x y lim wb wp).pivot]!) = false := by
      rcases hor with h | h
      · rw [decide_eq_false (by omega)]; rfl
      · rw [h, Bool.not_true, Bool.and_false]
    refine ⟨by rw [hx] at r; exact r.1, by rw [hx] at r; exact r.2.1, by rw [hx] at r; exact r.2.2.1.trans s3, fun hh => ?_, fun hh => ?_⟩
    · have e := pdq_left h12 hl hp h2 ⟨r.1, r.2.1⟩ (by rw [hx]; exact hh)
      rw [hx] at e
      exact e
    · have e := pdq_right h12 hl hp h2 ⟨r.1, r.2.1⟩ (by rw [hx]; exact hh)
      rw [hx] at e
      exact e

theorem hint_two {h : Hint} (e : h ≠ .decreasing) : ¬ (hintCode h : Int) = 2 := by cases h <;> simp [hintCode] at e ⊢

theorem eighths {x y p q : Nat} (h1 : q ≤ p) (h2 : y ≤ x) : decide (((x : Int) - (y : Int)) / 8 ≤ (p : Int) - (q : Int)) = decide (p - q ≥ (x - y) / 8) :=
  decide_eq_decide.2 ⟨fun h => by omega, fun h => by omega⟩

theorem pdq_size {α : Type} [Inhabited α] (lt : α → α → Bool) (d : Array α) (a b limit : Nat) (wb wp : Bool) (hab : a ≤ b) (hb : b ≤ d.size) : (pdq lt d a b limit wb wp).size = d.size := (pdq_any lt d a b limit wb wp hab hb).1

section
variable {α : Type} [Inhabited α] (lt : α → α → Bool)
theorem insBlocks_go (s n a : Nat) (d : Array α) (h : a + s ≤ n) (h0 : 0 < s) : insBlocks lt s n a d = insBlocks lt s n (a + s) (insertionSort lt d a (a + s)) := by rw [insBlocks, dif_pos ⟨h, h0⟩]
theorem insBlocks_end (s n a : Nat) (d : Array α) (h : ¬ a + s ≤ n) : insBlocks lt s n a d = insertionSort lt d a n := by rw [insBlocks, dif_neg (fun h' => h h'.1)]
theorem mergePass_go (s n a : Nat) (d : Array α) (h : a + 2 * s ≤ n) (h0 : 0 < s) : mergePass lt s n a d = mergePass lt s n (a + 2 * s) (symMerge lt d a (a + s) (a + 2 * s)) := by rw [mergePass, dif_pos ⟨h, h0⟩]
theorem mergePass_last (s n a : Nat) (d : Array α) (h : ¬ a + 2 * s ≤ n) (h1 : a + s < n) : mergePass lt s n a d = symMerge lt d a (a + s) n := by rw [mergePass, dif_neg (fun h' => h h'.1), if_pos h1]
theorem mergePass_end (s n a : Nat) (d : Array α) (h : ¬ a + 2 * s ≤ n) (h1 : ¬ a + s < n) : mergePass lt s n a d = d := by rw [mergePass, dif_neg (fun h' => h h'.1), if_neg h1]
theorem stableLoop_go (n s : Nat) (d : Array α) (h : s < n) (h0 : 0 < s) : stableLoop lt n s d = stableLoop lt n (s * 2) (mergePass lt s n 0 d) := by rw [stableLoop, dif_pos ⟨h, h0⟩]
theorem stableLoop_end (n s : Nat) (d : Array α) (h : ¬ s < n) : stableLoop lt n s d = d := by rw [stableLoop, dif_neg (fun h' => h h'.1)]
end
end Go.Proofs.Ytglgmkikegbchaa
