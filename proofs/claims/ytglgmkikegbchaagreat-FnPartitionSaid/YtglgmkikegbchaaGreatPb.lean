/- swapRange, rotate, symMerge, stable as functions over an array; what swapRange and rotate leave; that all permute. No program in this text. -/
import Derived.Test.YtglgmkikegbchaaGreatPa
namespace Go.Proofs.YtglgmkikegbchaaGreat
open Go.Sort

variable {α : Type} [Inhabited α]

/-! ### swapRange, rotate -/
/-- 'for i := i; i < n; i++ { swap a+i, b+i }': k rounds are left, from i. -/
def swapLoop (a b : Nat) : Nat → Nat → Array α → Array α
  | 0, _, d => d
  | k + 1, i, d => swapLoop a b k (i + 1) (swp d (a + i) (b + i))
def swapRange (d : Array α) (a b n : Nat) : Array α := swapLoop a b n 0 d

/-- The loop of rotate, from (i, j). (Two guards that always hold: neither is 0.) -/
def rotLoop (m i j : Nat) (d : Array α) : Array α :=
  if i = j then swapRange d (m - i) m i
  else if j < i then (if _h : 0 < j then rotLoop m (i - j) j (swapRange d (m - i) m j) else d)
  else (if _h : 0 < i then rotLoop m i (j - i) (swapRange d (m - i) (m + j - i) i) else d)
termination_by i + j
decreasing_by all_goals omega
def rotate (d : Array α) (a m b : Nat) : Array α := rotLoop m (m - a) (b - m) d

theorem swp_at (d : Array α) {i j : Nat} (hi : i < d.size) (hj : j < d.size) (k : Nat) : (swp d i j)[k]! = if k = j then d[i]! else if k = i then d[j]! else d[k]! := by
  rw [swp_get d hi hj k]

theorem swapLoop_spec (a b : Nat) : ∀ (k i : Nat) (d : Array α), (a + i + k ≤ b + i ∨ b + i + k ≤ a + i) → a + i + k ≤ d.size → b + i + k ≤ d.size →
    (swapLoop a b k i d).size = d.size ∧ ∀ t, (swapLoop a b k i d)[t]! = if a + i ≤ t ∧ t < a + i + k then d[t - a + b]! else if b + i ≤ t ∧ t < b + i + k then d[t - b + a]! else d[t]!
  | 0, i, d, _, _, _ => ⟨rfl, fun t => by rw [swapLoop, if_neg (by omega), if_neg (by omega)]⟩
  | k + 1, i, d, h, ha, hb => by
    obtain ⟨s, g⟩ := swapLoop_spec a b k (i + 1) (swp d (a + i) (b + i)) (by omega) (by rw [size_swp]; omega) (by rw [size_swp]; omega)
    refine ⟨by rw [swapLoop, s, size_swp], fun t => ?_⟩
    rw [swapLoop, g t]
    have sw := swp_get d (i := a + i) (j := b + i) (by omega) (by omega)
    by_cases h1 : a + (i + 1) ≤ t ∧ t < a + (i + 1) + k
    · rw [if_pos h1, if_pos (by omega), sw, if_neg (by omega), if_neg (by omega)]
    · rw [if_neg h1]
      by_cases h2 : b + (i + 1) ≤ t ∧ t < b + (i + 1) + k
      · rw [if_pos h2, if_neg (by omega), if_pos (by omega), sw, if_neg (by omega), if_neg (by omega)]
      · rw [if_neg h2, sw]
        by_cases h4 : t = b + i
        · rw [if_pos h4, if_neg (by omega), if_pos (by omega), show t - b + a = a + i by omega]
        · rw [if_neg h4]
          by_cases h3 : t = a + i
          · rw [if_pos h3, if_pos (by omega), show t - a + b = b + i by omega]
          · rw [if_neg h3, if_neg (by omega), if_neg (by omega)]

theorem swapRange_spec (d : Array α) (a b n : Nat) (h : a + n ≤ b ∨ b + n ≤ a) (ha : a + n ≤ d.size) (hb : b + n ≤ d.size) :
    (swapRange d a b n).size = d.size ∧ ∀ t, (swapRange d a b n)[t]! = if a ≤ t ∧ t < a + n then d[t - a + b]! else if b ≤ t ∧ t < b + n then d[t - b + a]! else d[t]! := by
  have := swapLoop_spec a b n 0 d (by omega) (by omega) (by omega)
  simp only [Nat.add_zero] at this
  exact this

section
variable {lt : α → α → Bool}
theorem size_siftDown (hi first r : Nat) (d : Array α) (h : first + hi ≤ d.size) : (siftDown lt hi first r d).size = d.size :=
  (siftDown_perm first (first + hi) hi first (Nat.le_refl _) (Nat.le_refl _) _ r d (Nat.le_refl _) h).1
theorem sift_end (hi first r : Nat) (d : Array α) (h : hi ≤ 2 * r + 1) : siftDown lt hi first r d = d := by
  rw [siftDown, dif_pos h]
theorem sift_right_go (hi first r : Nat) (d : Array α) (h : 2 * r + 2 < hi) (h1 : lt d[first + (2 * r + 1)]! d[first + (2 * r + 1) + 1]! = true) (h2 : lt d[first + r]! d[first + (2 * r + 2)]! = true) : siftDown lt hi first r d = siftDown lt hi first (2 * r + 2) (swp d (first + r) (first + (2 * r + 2))) := by
  rw [siftDown, dif_neg (by omega), if_pos (by simp [h1]; omega), if_neg (by simp [h2]), dif_pos h]
theorem sift_right_stop (hi first r : Nat) (d : Array α) (h : 2 * r + 2 < hi) (h1 : lt d[first + (2 * r + 1)]! d[first + (2 * r + 1) + 1]! = true) (h2 : lt d[first + r]! d[first + (2 * r + 2)]! = false) : siftDown lt hi first r d = d := by
  rw [siftDown, dif_neg (by omega), if_pos (by simp [h1]; omega), if_pos (by simp [h2])]
theorem sift_left_go (hi first r : Nat) (d : Array α) (h : 2 * r + 1 < hi) (h1 : ¬ 2 * r + 2 < hi ∨ lt d[first + (2 * r + 1)]! d[first + (2 * r + 1) + 1]! = false) (h2 : lt d[first + r]! d[first + (2 * r + 1)]! = true) : siftDown lt hi first r d = siftDown lt hi first (2 * r + 1) (swp d (first + r) (first + (2 * r + 1))) := by
  rw [siftDown, dif_neg (by omega), if_neg (by rcases h1 with h1 | h1 <;> simp [h1] <;> omega), if_neg (by simp [h2])]
theorem sift_left_stop (hi first r : Nat) (d : Array α) (h : 2 * r + 1 < hi) (h1 : ¬ 2 * r + 2 < hi ∨ lt d[first + (2 * r + 1)]! d[first + (2 * r + 1) + 1]! = false) (h2 : lt d[first + r]! d[first + (2 * r + 1)]! = false) : siftDown lt hi first r d = d := by
  rw [siftDown, dif_neg (by omega), if_neg (by rcases h1 with h1 | h1 <;> simp [h1] <;> omega), if_pos (by simp [h2])]
end
theorem size_swapLoop (a b : Nat) : ∀ (k i : Nat) (d : Array α), (swapLoop a b k i d).size = d.size
  | 0, _, _ => rfl
  | k + 1, i, d => by rw [swapLoop, size_swapLoop a b k, size_swp]
theorem size_swapRange (d : Array α) (a b c : Nat) : (swapRange d a b c).size = d.size := size_swapLoop a b c 0 d
theorem rot_more (m i j : Nat) (d : Array α) (h : j < i) (h0 : 0 < j) : rotLoop m i j d = rotLoop m (i - j) j (swapRange d (m - i) m j) := by
  rw [rotLoop, if_neg (by omega), if_pos h, dif_pos h0]
theorem rot_less (m i j : Nat) (d : Array α) (h : i < j) (h0 : 0 < i) : rotLoop m i j d = rotLoop m i (j - i) (swapRange d (m - i) (m + j - i) i) := by
  rw [rotLoop, if_neg (by omega), if_neg (by omega), dif_pos h0]
theorem rot_stop (m i : Nat) (d : Array α) : rotLoop m i i d = swapRange d (m - i) m i := by
  rw [rotLoop, if_pos rfl]

theorem swapLoop_go (a b c i : Nat) (d : Array α) (h : i < c) : swapLoop a b (c - i) i d = swapLoop a b (c - (i + 1)) (i + 1) (swp d (a + i) (b + i)) := by
  rw [show c - i = (c - (i + 1)) + 1 by omega, swapLoop]
theorem swapLoop_stop (a b c i : Nat) (d : Array α) (h : ¬ i < c) : swapLoop a b (c - i) i d = d := by
  rw [show c - i = 0 by omega, swapLoop]

theorem swapLoop_perm (lo hi a b : Nat) : ∀ (k i : Nat) (d : Array α), lo ≤ a + i → lo ≤ b + i → a + i + k ≤ hi → b + i + k ≤ hi → hi ≤ d.size → PermIn lo hi d (swapLoop a b k i d)
  | 0, i, d, _, _, _, _, _ => permIn_refl d lo hi
  | k + 1, i, d, h1, h2, h3, h4, h5 => by
    rw [swapLoop]
    exact permIn_trans _ _ _ _ _ (swp_permIn d lo hi (a + i) (b + i) h1 (by omega) h2 (by omega) h5) (swapLoop_perm lo hi a b k (i + 1) _ (by omega) (by omega) (by omega) (by omega) (by rw [size_swp]; exact h5))

theorem swapRange_perm (lo hi : Nat) (d : Array α) (a b n : Nat) (h1 : lo ≤ a) (h2 : lo ≤ b) (h3 : a + n ≤ hi) (h4 : b + n ≤ hi) (h5 : hi ≤ d.size) : PermIn lo hi d (swapRange d a b n) :=
  swapLoop_perm lo hi a b n 0 d (by omega) (by omega) (by omega) (by omega) h5

/-- What rotate leaves: the two neighbours [p, m), [m, q) have changed places. -/
def Rotated (p m q : Nat) (d d' : Array α) : Prop :=
  d'.size = d.size ∧ ∀ t, d'[t]! = if p ≤ t ∧ t < p + (q - m) then d[t - p + m]! else if p + (q - m) ≤ t ∧ t < q then d[t - (q - m)]! else d[t]!

theorem rotLoop_spec (m : Nat) : ∀ (n i j : Nat) (d : Array α), i + j ≤ n → 0 < i → 0 < j → i ≤ m → m + j ≤ d.size →
    Rotated (m - i) m (m + j) d (rotLoop m i j d) ∧ PermIn (m - i) (m + j) d (rotLoop m i j d) := by
  intro n
  induction n with
  | zero => intro i j d h h1 h2; omega
  | succ n ih =>
    intro i j d h hi hj him hmj
    rw [rotLoop]
    split
    · rename_i e
      subst e
      obtain ⟨s, g⟩ := swapRange_spec d (m - i) m i (by omega) (by omega) hmj
      refine ⟨⟨s, fun t => ?_⟩, swapRange_perm _ _ d _ _ _ (Nat.le_refl _) (by omega) (by omega) (Nat.le_refl _) hmj⟩
      rw [g]
      repeat' split
      all_goals first | omega | (congr 1; omega) | rfl
    · rename_i hne
      split
      · rename_i hji
        obtain ⟨s, g⟩ := swapRange_spec d (m - i) m j (by omega) (by omega) (by omega)
        have P := swapRange_perm (m - i) (m + j) d (m - i) m j (Nat.le_refl _) (by omega) (by omega) (by omega) (by omega)
        obtain ⟨⟨s2, g2⟩, P2⟩ := ih (i - j) j (swapRange d (m - i) m j) (by omega) (by omega) hj (by omega) (by rw [s]; exact hmj)
        refine ⟨⟨by rw [s2, s], fun t => ?_⟩, permIn_trans _ _ _ _ _ P (permIn_mono _ _ (m - (i - j)) (m + j) _ _ (by omega) (Nat.le_refl _) (by rw [s]; exact hmj) P2)⟩
        rw [g2, g, g, g]
        repeat' split
        all_goals first | omega | (congr 1; omega) | rfl
      · rename_i hji
        obtain ⟨s, g⟩ := swapRange_spec d (m - i) (m + j - i) i (by omega) (by omega) (by omega)
        have P := swapRange_perm (m - i) (m + j) d (m - i) (m + j - i) i (Nat.le_refl _) (by omega) (by omega) (by omega) (by omega)
        obtain ⟨⟨s2, g2⟩, P2⟩ := ih i (j - i) (swapRange d (m - i) (m + j - i) i) (by omega) hi (by omega) him (by rw [s]; omega)
        refine ⟨⟨by rw [s2, s], fun t => ?_⟩, permIn_trans _ _ _ _ _ P (permIn_mono _ _ (m - i) (m + (j - i)) _ _ (Nat.le_refl _) (by omega) (by rw [s]; omega) P2)⟩
        rw [g2, g, g, g]
        repeat' split
        all_goals first | omega | (congr 1; omega) | rfl

theorem rotate_spec (d : Array α) (a m b : Nat) (h1 : a < m) (h2 : m < b) (hb : b ≤ d.size) : Rotated a m b d (rotate d a m b) ∧ PermIn a b d (rotate d a m b) := by
  have := rotLoop_spec m _ (m - a) (b - m) d (Nat.le_refl _) (by omega) (by omega) (by omega) (by omega)
  rwa [show m - (m - a) = a by omega, show m + (b - m) = b by omega] at this


/-! ### binary search -/
/-- 'for i < j { h := (i+j)/2; if p(h) { i = h+1 } else { j = h } }' -/
def bsearch (p : Nat → Bool) (i j : Nat) : Nat :=
  if _h : i < j then (if p ((i + j) / 2) then bsearch p ((i + j) / 2 + 1) j else bsearch p i ((i + j) / 2)) else i
termination_by j - i
decreasing_by all_goals omega

theorem bsearch_range (p : Nat → Bool) : ∀ (n i j : Nat), j - i ≤ n → i ≤ j → i ≤ bsearch p i j ∧ bsearch p i j ≤ j := by
  intro n
  induction n with
  | zero => intro i j h hij; rw [bsearch, dif_neg (by omega)]; omega
  | succ n ih =>
    intro i j h hij
    rw [bsearch]
    split
    · split
      · have := ih ((i + j) / 2 + 1) j (by omega) (by omega); omega
      · have := ih i ((i + j) / 2) (by omega) (by omega); omega
    · omega

theorem bsearch_edge (p : Nat → Bool) (lo hi : Nat) : ∀ (n i j : Nat), j - i ≤ n → i ≤ j → (i = lo ∨ p (i - 1) = true) → (j = hi ∨ p j = false) →
    (bsearch p i j = lo ∨ p (bsearch p i j - 1) = true) ∧ (bsearch p i j = hi ∨ p (bsearch p i j) = false) := by
  intro n
  induction n with
  | zero =>
    intro i j h hij hl hr
    have e : i = j := by omega
    subst e
    have e2 : bsearch p i i = i := by rw [bsearch, dif_neg (by omega)]
    rw [e2]
    exact ⟨hl, hr⟩
  | succ n ih =>
    intro i j h hij hl hr
    rw [bsearch]
    split
    · split
      · rename_i hp
        exact ih ((i + j) / 2 + 1) j (by omega) (by omega) (Or.inr (by rw [Nat.add_sub_cancel]; exact hp)) hr
      · rename_i hp
        exact ih i ((i + j) / 2) (by omega) (by omega) hl (Or.inr (by simpa using hp))
    · obtain rfl : i = j := by omega
      exact ⟨hl, hr⟩

theorem bsearch_spec (p : Nat → Bool) (lo hi : Nat) (h : lo ≤ hi) :
    lo ≤ bsearch p lo hi ∧ bsearch p lo hi ≤ hi ∧ (bsearch p lo hi = lo ∨ p (bsearch p lo hi - 1) = true) ∧ (bsearch p lo hi = hi ∨ p (bsearch p lo hi) = false) := by
  have a := bsearch_range p _ lo hi (Nat.le_refl _) h
  have b := bsearch_edge p lo hi _ lo hi (Nat.le_refl _) h (Or.inl rfl) (Or.inl rfl)
  exact ⟨a.1, a.2, b.1, b.2⟩

/-! ### the two moves of symMerge -/
/-- 'for k := k; k < e; k++ { swap k, k+1 }': n rounds are left. -/
def upLoop : Nat → Nat → Array α → Array α
  | 0, _, d => d
  | n + 1, k, d => upLoop n (k + 1) (swp d k (k + 1))
/-- 'for k := k; k > i; k-- { swap k, k-1 }': n rounds are left. -/
def downLoop : Nat → Nat → Array α → Array α
  | 0, _, d => d
  | n + 1, k, d => downLoop n (k - 1) (swp d k (k - 1))

section
variable (lt : α → α → Bool)
/-- symMerge. (The guard 'mid < b' always holds.) -/
def symMerge (d : Array α) (a m b : Nat) : Array α :=
  if m - a = 1 then upLoop (bsearch (fun h => lt d[h]! d[a]!) m b - 1 - a) a d
  else if b - m = 1 then downLoop (m - bsearch (fun h => !lt d[m]! d[h]!) a m) m d
  else
    let mid := (a + b) / 2
    let n := mid + m
    let s0 := if m > mid then n - b else a
    let r0 := if m > mid then mid else m
    let st := bsearch (fun c => !lt d[n - 1 - c]! d[c]!) s0 r0
    let e := n - st
    let d1 := if st < m ∧ m < e then rotate d st m e else d
    let d2 := if _h : (a < st ∧ st < mid) ∧ mid < b then symMerge d1 a st mid else d1
    if _h : (mid < e ∧ e < b) ∧ a < mid then symMerge d2 mid e b else d2
termination_by b - a
decreasing_by all_goals omega

/-- 'for b <= n { insertionSort(a, b); a = b; b += s }', then insertionSort(a, n); b is a + s. -/
def insBlocks (s n a : Nat) (d : Array α) : Array α :=
  if _h : a + s ≤ n ∧ 0 < s then insBlocks s n (a + s) (insertionSort lt d a (a + s)) else insertionSort lt d a n
termination_by n - a
decreasing_by omega

/-- One pass of merging blocks of s elements. -/
def mergePass (s n a : Nat) (d : Array α) : Array α :=
  if _h : a + 2 * s ≤ n ∧ 0 < s then mergePass s n (a + 2 * s) (symMerge lt d a (a + s) (a + 2 * s))
  else if a + s < n then symMerge lt d a (a + s) n else d
termination_by n - a
decreasing_by omega

def stableLoop (n s : Nat) (d : Array α) : Array α :=
  if _h : s < n ∧ 0 < s then stableLoop n (s * 2) (mergePass lt s n 0 d) else d
termination_by n - s
decreasing_by omega

def stable (d : Array α) (n : Nat) : Array α := stableLoop lt n 20 (insBlocks lt 20 n 0 d)
end

theorem upLoop_spec (q : Nat) : ∀ (n k : Nat) (d : Array α), k + n + 1 = q → q ≤ d.size → Rotated k (k + 1) q d (upLoop n k d) ∧ PermIn k q d (upLoop n k d)
  | 0, k, d, h, hq => by
    refine ⟨⟨rfl, fun t => ?_⟩, permIn_refl d _ _⟩
    rw [upLoop]
    repeat' split
    all_goals first | omega | (congr 1; omega) | rfl
  | n + 1, k, d, h, hq => by
    obtain ⟨⟨s, g⟩, P⟩ := upLoop_spec q n (k + 1) (swp d k (k + 1)) (by omega) (by rw [size_swp]; exact hq)
    have sw := swp_get d (i := k) (j := k + 1) (by omega) (by omega)
    rw [upLoop]
    refine ⟨⟨by rw [s, size_swp], fun t => ?_⟩, permIn_trans _ _ _ _ _ (swp_permIn d k q k (k + 1) (by omega) (by omega) (by omega) (by omega) hq) (permIn_mono _ _ (k + 1) q _ _ (by omega) (Nat.le_refl _) (by rw [size_swp]; exact hq) P)⟩
    rw [g, sw, sw, sw]
    repeat' split
    all_goals first | omega | (congr 1; omega) | rfl

theorem downLoop_spec (q : Nat) : ∀ (n k : Nat) (d : Array α), n ≤ k → k < d.size → k + 1 = q → Rotated (k - n) k q d (downLoop n k d) ∧ PermIn (k - n) q d (downLoop n k d)
  | 0, k, d, _, hk, hq => by
    refine ⟨⟨rfl, fun t => ?_⟩, permIn_refl d _ _⟩
    rw [downLoop]
    repeat' split
    all_goals first | omega | (congr 1; omega) | rfl
  | n + 1, k, d, hn, hk, hq => by
    obtain ⟨⟨s, g⟩, P⟩ := downLoop_spec k n (k - 1) (swp d k (k - 1)) (by omega) (by rw [size_swp]; omega) (by omega)
    have sw := swp_get d (i := k) (j := k - 1) (by omega) (by omega)
    rw [downLoop]
    refine ⟨⟨by rw [s, size_swp], fun t => ?_⟩, permIn_trans _ _ _ _ _ (swp_permIn d (k - (n + 1)) q k (k - 1) (by omega) (by omega) (by omega) (by omega) (by omega)) (permIn_mono _ _ (k - 1 - n) k _ _ (by omega) (by omega) (by rw [size_swp]; omega) P)⟩
    rw [g, sw, sw, sw]
    repeat' split
    all_goals first | omega | (congr 1; omega) | rfl

/-- symMerge, whatever comes of comparing. -/
theorem symMerge_perm (lt : α → α → Bool) : ∀ (N a m b : Nat) (d : Array α), b - a ≤ N → a < m → m < b → b ≤ d.size → PermIn a b d (symMerge lt d a m b) := by
  intro N
  induction N with
  | zero => intro a m b d h h1 h2; omega
  | succ N ih =>
    intro a m b d h h1 h2 hb
    rw [symMerge]
    split
    · have r := bsearch_range (fun h => lt d[h]! d[a]!) _ m b (Nat.le_refl _) (by omega)
      generalize bsearch (fun h => lt d[h]! d[a]!) m b = i at r ⊢
      have := (upLoop_spec i (i - 1 - a) a d (by omega) (by omega)).2
      exact permIn_mono _ _ a i a b (Nat.le_refl _) (by omega) hb this
    · split
      · have r := bsearch_range (fun h => !lt d[m]! d[h]!) _ a m (Nat.le_refl _) (by omega)
        generalize bsearch (fun h => !lt d[m]! d[h]!) a m = i at r ⊢
        have := (downLoop_spec (m + 1) (m - i) m d (by omega) (by omega) rfl).2
        exact permIn_mono _ _ (m - (m - i)) (m + 1) a b (by omega) (by omega) hb this
      · dsimp only
        have hs : (if m > (a + b) / 2 then (a + b) / 2 + m - b else a) ≤ (if m > (a + b) / 2 then (a + b) / 2 else m) := by split <;> omega
        have r := bsearch_range (fun c => !lt d[(a + b) / 2 + m - 1 - c]! d[c]!) _ _ _ (Nat.le_refl _) hs
        generalize bsearch (fun c => !lt d[(a + b) / 2 + m - 1 - c]! d[c]!) _ _ = st at r ⊢
        have r1 : a ≤ st ∧ st ≤ m ∧ st ≤ (a + b) / 2 ∧ (a + b) / 2 + m - st ≤ b := by
          split at r <;> omega
        have P1 : PermIn a b d (if st < m ∧ m < (a + b) / 2 + m - st then rotate d st m ((a + b) / 2 + m - st) else d) := by
          split
          · exact permIn_mono _ _ st ((a + b) / 2 + m - st) a b (by omega) (by omega) hb (rotate_spec d st m _ (by omega) (by omega) (by omega)).2
          · exact permIn_refl d _ _
        generalize (if st < m ∧ m < (a + b) / 2 + m - st then rotate d st m ((a + b) / 2 + m - st) else d) = d1 at P1 ⊢
        have b1 : b ≤ d1.size := by rw [P1.1]; exact hb
        have P2 : PermIn a b d1 (if _h : (a < st ∧ st < (a + b) / 2) ∧ (a + b) / 2 < b then symMerge lt d1 a st ((a + b) / 2) else d1) := by
          split
          · exact permIn_mono _ _ a ((a + b) / 2) a b (Nat.le_refl _) (by omega) b1 (ih a st ((a + b) / 2) d1 (by omega) (by omega) (by omega) (by omega))
          · exact permIn_refl d1 _ _
        generalize (if _h : (a < st ∧ st < (a + b) / 2) ∧ (a + b) / 2 < b then symMerge lt d1 a st ((a + b) / 2) else d1) = d2 at P2 ⊢
        have b2 : b ≤ d2.size := by rw [P2.1]; exact b1
        have P3 : PermIn a b d2 (if _h : ((a + b) / 2 < (a + b) / 2 + m - st ∧ (a + b) / 2 + m - st < b) ∧ a < (a + b) / 2 then symMerge lt d2 ((a + b) / 2) ((a + b) / 2 + m - st) b else d2) := by
          split
          · exact permIn_mono _ _ ((a + b) / 2) b a b (by omega) (Nat.le_refl _) b2 (ih _ _ b d2 (by omega) (by omega) (by omega) b2)
          · exact permIn_refl d2 _ _
        exact permIn_trans _ _ _ _ _ (permIn_trans _ _ _ _ _ P1 P2) P3

theorem insBlocks_perm (lt : α → α → Bool) (s n : Nat) : ∀ (N a : Nat) (d : Array α), n - a ≤ N → n ≤ d.size → (∀ (d : Array α) (a b : Nat), b ≤ d.size → PermIn a b d (insertionSort lt d a b)) → PermIn 0 n d (insBlocks lt s n a d) := by
  intro N
  induction N with
  | zero =>
    intro a d h hn hi
    rw [insBlocks, dif_neg (by omega)]
    by_cases ha : a ≤ n
    · exact permIn_mono _ _ a n 0 n (Nat.zero_le _) (Nat.le_refl _) hn (hi d a n hn)
    · rw [insertionSort, insOuter, if_neg (by omega)]; exact permIn_refl d _ _
  | succ N ih =>
    intro a d h hn hi
    rw [insBlocks]
    split
    · have p := permIn_mono _ _ a (a + s) 0 n (Nat.zero_le _) (by omega) hn (hi d a (a + s) (by omega))
      exact permIn_trans _ _ _ _ _ p (ih (a + s) _ (by omega) (by rw [p.1]; exact hn) hi)
    · by_cases ha : a ≤ n
      · exact permIn_mono _ _ a n 0 n (Nat.zero_le _) (Nat.le_refl _) hn (hi d a n hn)
      · rw [insertionSort, insOuter, if_neg (by omega)]; exact permIn_refl d _ _

theorem mergePass_perm (lt : α → α → Bool) (s n : Nat) : ∀ (N a : Nat) (d : Array α), n - a ≤ N → 0 < s → n ≤ d.size → PermIn 0 n d (mergePass lt s n a d) := by
  intro N
  induction N with
  | zero =>
    intro a d h hs hn
    rw [mergePass, dif_neg (by omega), if_neg (by omega)]
    exact permIn_refl d _ _
  | succ N ih =>
    intro a d h hs hn
    rw [mergePass]
    split
    · have p := permIn_mono _ _ a (a + 2 * s) 0 n (Nat.zero_le _) (by omega) hn (symMerge_perm lt _ a (a + s) (a + 2 * s) d (Nat.le_refl _) (by omega) (by omega) (by omega))
      exact permIn_trans _ _ _ _ _ p (ih (a + 2 * s) _ (by omega) hs (by rw [p.1]; exact hn))
    · split
      · exact permIn_mono _ _ a n 0 n (Nat.zero_le _) (Nat.le_refl _) hn (symMerge_perm lt _ a (a + s) n d (Nat.le_refl _) (by omega) (by omega) hn)
      · exact permIn_refl d _ _

theorem stableLoop_perm (lt : α → α → Bool) (n : Nat) : ∀ (N s : Nat) (d : Array α), n - s ≤ N → n ≤ d.size → PermIn 0 n d (stableLoop lt n s d) := by
  intro N
  induction N with
  | zero => intro s d h hn; rw [stableLoop, dif_neg (by omega)]; exact permIn_refl d _ _
  | succ N ih =>
    intro s d h hn
    rw [stableLoop]
    split
    · rename_i hs
      have p := mergePass_perm lt s n _ 0 d (Nat.le_refl _) hs.2 hn
      exact permIn_trans _ _ _ _ _ p (ih (s * 2) _ (by omega) (by rw [p.1]; exact hn))
    · exact permIn_refl d _ _
end Go.Proofs.YtglgmkikegbchaaGreat
