/- symMerge merges two sorted neighbours and leaves those that are alike as they stood. No program in this text. -/
import Derived.Test.YtglgmkikegbchaaGreatPb
namespace Go.Proofs.YtglgmkikegbchaaGreat
open Go.Sort

variable {α : Type} [Inhabited α]

/-- The elements of a part, as a list. -/
def seg (d : Array α) (a b : Nat) : List α := (List.range' a (b - a)).map (fun i => d[i]!)

theorem seg_length (d : Array α) (a b : Nat) : (seg d a b).length = b - a := by simp [seg]
theorem seg_get (d : Array α) (a b k : Nat) (h : k < (seg d a b).length) : (seg d a b)[k] = d[a + k]! := by
  simp [seg]
theorem seg_append (d : Array α) {a m b : Nat} (h1 : a ≤ m) (h2 : m ≤ b) : seg d a b = seg d a m ++ seg d m b := by
  unfold seg
  rw [← List.map_append]
  congr 1
  obtain ⟨x, rfl⟩ : ∃ x, m = a + x := ⟨m - a, by omega⟩
  rw [show b - a = x + (b - (a + x)) by omega, show a + x - a = x by omega, ← List.range'_append_1]
theorem seg_congr {d d' : Array α} {a b : Nat} (h : ∀ i, a ≤ i → i < b → d'[i]! = d[i]!) : seg d' a b = seg d a b := by
  unfold seg
  refine List.map_congr_left fun i hi => ?_
  rw [List.mem_range'_1] at hi
  exact h i hi.1 (by omega)
theorem mem_seg {d : Array α} {a b : Nat} {x : α} : x ∈ seg d a b ↔ ∃ i, a ≤ i ∧ i < b ∧ d[i]! = x := by
  unfold seg
  simp only [List.mem_map, List.mem_range'_1]
  exact ⟨fun ⟨i, h1, h2⟩ => ⟨i, h1.1, by omega, h2⟩, fun ⟨i, h1, h2, h3⟩ => ⟨i, ⟨h1, by omega⟩, h3⟩⟩
theorem seg_shift (d d' : Array α) (a a' n : Nat) (h : ∀ i, i < n → d'[a' + i]! = d[a + i]!) : seg d' a' (a' + n) = seg d a (a + n) := by
  refine List.ext_getElem (by simp [seg]) fun k h1 h2 => ?_
  rw [seg_get, seg_get]
  rw [seg_length] at h1
  exact h k (by omega)
theorem extract_seg (d : Array α) (a b : Nat) (hb : b ≤ d.size) : (d.extract a b).toList = seg d a b := extract_toList d a b hb

theorem Rotated.seg {p m q : Nat} {d d' : Array α} (h : Rotated p m q d d') (h1 : p ≤ m) (h2 : m ≤ q) : seg d' p q = Go.Proofs.YtglgmkikegbchaaGreat.seg d m q ++ Go.Proofs.YtglgmkikegbchaaGreat.seg d p m := by
  obtain ⟨_, g⟩ := h
  rw [seg_append d' (show p ≤ p + (q - m) by omega) (show p + (q - m) ≤ q by omega)]
  congr 1
  · have := seg_shift d d' m p (q - m) (fun i hi => by rw [g, if_pos (by omega)]; congr 1; omega)
    rw [this, show m + (q - m) = q by omega]
  · have := seg_shift d d' p (p + (q - m)) (m - p) (fun i hi => by rw [g, if_neg (by omega), if_pos (by omega)]; congr 1; omega)
    rw [show p + (q - m) + (m - p) = q by omega, show p + (m - p) = m by omega] at this
    exact this

section
variable (μ : α → Int)
/-- The order by a measure. -/
def ltBy : α → α → Bool := fun x y => decide (μ x < μ y)
omit [Inhabited α] in
theorem swo_ltBy : SWO (ltBy μ) where
  irrefl x := by simp [ltBy]
  trans x y z := by simp only [ltBy, decide_eq_true_eq]; omega
  ntrans x y z := by simp only [ltBy, decide_eq_false_iff_not]; omega

/-- Those that are alike. -/
def fil (v : Int) (l : List α) : List α := l.filter (fun x => decide (μ x = v))
omit [Inhabited α] in
theorem fil_append (v : Int) (l k : List α) : fil μ v (l ++ k) = fil μ v l ++ fil μ v k := List.filter_append ..
omit [Inhabited α] in
theorem fil_nil_of {v : Int} {l : List α} (h : ∀ x ∈ l, μ x ≠ v) : fil μ v l = [] := by
  unfold fil
  rw [List.filter_eq_nil_iff]
  intro x hx
  simpa using h x hx
omit [Inhabited α] in
theorem fil_swap {U V : List α} (h : ∀ x ∈ U, ∀ y ∈ V, μ y < μ x) (v : Int) : fil μ v (V ++ U) = fil μ v (U ++ V) := by
  rw [fil_append, fil_append]
  by_cases hx : ∃ x ∈ U, μ x = v
  · obtain ⟨x, hx, e⟩ := hx
    have : fil μ v V = [] := fil_nil_of μ fun y hy => by have := h x hx y hy; omega
    rw [this]; simp
  · have : fil μ v U = [] := fil_nil_of μ fun x hx' e => hx ⟨x, hx', e⟩
    rw [this]; simp

/-- d' is d with the part in the order, those that are alike as they stood. -/
def StableIn (a b : Nat) (d d' : Array α) : Prop := PermIn a b d d' ∧ SortedIn (ltBy μ) a b d' ∧ ∀ v, fil μ v (seg d' a b) = fil μ v (seg d a b)

variable {μ}
theorem sortedBy {a b : Nat} {d : Array α} : SortedIn (ltBy μ) a b d ↔ ∀ i j, a ≤ i → i < j → j < b → μ d[i]! ≤ μ d[j]! := by
  unfold SortedIn ltBy
  simp only [decide_eq_false_iff_not, Int.not_lt]

theorem sortedBy_le {a b : Nat} {d : Array α} (h : SortedIn (ltBy μ) a b d) {i j : Nat} (h1 : a ≤ i) (h2 : i ≤ j) (h3 : j < b) : μ d[i]! ≤ μ d[j]! := by
  rcases Nat.lt_or_ge i j with e | e
  · exact sortedBy.1 h i j h1 e h3
  · obtain rfl : i = j := by omega
    exact Int.le_refl _

theorem StableIn.refl {a b : Nat} {d : Array α} (h : SortedIn (ltBy μ) a b d) : StableIn μ a b d d := ⟨permIn_refl d a b, h, fun _ => rfl⟩

/-- A block that stands ahead of all that it jumps over. -/
theorem rotated_fil {p m q : Nat} {d d' : Array α} (h : Rotated p m q d d') (h1 : p ≤ m) (h2 : m ≤ q)
    (hlt : ∀ i j, p ≤ i → i < m → m ≤ j → j < q → μ d[j]! < μ d[i]!) (v : Int) : fil μ v (seg d' p q) = fil μ v (seg d p q) := by
  rw [h.seg h1 h2, seg_append d h1 h2]
  refine fil_swap μ (fun x hx y hy => ?_) v
  obtain ⟨i, i1, i2, rfl⟩ := mem_seg.1 hx
  obtain ⟨j, j1, j2, rfl⟩ := mem_seg.1 hy
  exact hlt i j i1 i2 j1 j2

/-- A change of a part within a greater one. -/
theorem fil_within {a p q b : Nat} {d d' : Array α} (h1 : a ≤ p) (h2 : p ≤ q) (h3 : q ≤ b) (hout : ∀ i, i < p ∨ q ≤ i → d'[i]! = d[i]!) (v : Int)
    (h : fil μ v (seg d' p q) = fil μ v (seg d p q)) : fil μ v (seg d' a b) = fil μ v (seg d a b) := by
  rw [seg_append d' h1 (by omega : p ≤ b), seg_append d' h2 h3, seg_append d h1 (by omega : p ≤ b), seg_append d h2 h3]
  simp only [fil_append, h]
  rw [seg_congr (d := d) (d' := d') (a := a) (b := p) (fun i _ hi => hout i (Or.inl hi)), seg_congr (d := d) (d' := d') (a := q) (b := b) (fun i hi _ => hout i (Or.inr hi))]

theorem symMerge_stable : ∀ (N a m b : Nat) (d : Array α), b - a ≤ N → a < m → m < b → b ≤ d.size → SortedIn (ltBy μ) a m d → SortedIn (ltBy μ) m b d →
    StableIn μ a b d (symMerge (ltBy μ) d a m b) := by
  intro N
  induction N with
  | zero => intro a m b d h h1 h2; omega
  | succ N ih =>
    intro a m b d h h1 h2 hb sl sr
    have PP := symMerge_perm (ltBy μ) _ a m b d (Nat.le_refl _) h1 h2 hb
    refine ⟨PP, ?_⟩
    clear PP
    rw [symMerge]
    split
    · -- one element on the left
      rename_i hm1
      obtain ⟨r1, r2, e1, e2⟩ := bsearch_spec (fun h => ltBy μ d[h]! d[a]!) m b (by omega)
      generalize bsearch (fun h => ltBy μ d[h]! d[a]!) m b = i at *
      have lo : ∀ t, m ≤ t → t < i → μ d[t]! < μ d[a]! := fun t t1 t2 => by
        rcases e1 with e | e
        · omega
        · simp only [ltBy, decide_eq_true_eq] at e
          have := sortedBy_le sr t1 (show t ≤ i - 1 by omega) (by omega)
          omega
      have hi' : ∀ t, i ≤ t → t < b → μ d[a]! ≤ μ d[t]! := fun t t1 t2 => by
        rcases e2 with e | e
        · omega
        · simp only [ltBy, decide_eq_false_iff_not, Int.not_lt] at e
          have := sortedBy_le sr (show m ≤ i by omega) t1 t2
          omega
      obtain ⟨R, P⟩ := upLoop_spec i (i - 1 - a) a d (by omega) (by omega)
      generalize upLoop (i - 1 - a) a d = d' at R P ⊢
      have g := R.2
      refine ⟨sortedBy.2 fun x y x1 x2 x3 => ?_, fun v => ?_⟩
      · -- the value at a place
        have at1 : ∀ t, a ≤ t → t < i - 1 → d'[t]! = d[t + 1]! := fun t t1 t2 => by rw [g, if_pos (by omega)]; congr 1; omega
        have at2 : d'[i - 1]! = d[a]! := by
          rw [g, if_neg (by omega), if_pos (by omega)]; congr 1; omega
        have at3 : ∀ t, i ≤ t → d'[t]! = d[t]! := fun t t1 => by rw [g, if_neg (by omega), if_neg (by omega)]
        by_cases c1 : x < i - 1
        · rw [at1 x x1 c1]
          by_cases c2 : y < i - 1
          · rw [at1 y (by omega) c2]; exact sortedBy_le sr (by omega) (by omega) (by omega)
          · by_cases c3 : y = i - 1
            · rw [c3, at2]; have := lo (x + 1) (by omega) (by omega); omega
            · rw [at3 y (by omega)]; exact sortedBy_le sr (by omega) (by omega) (by omega)
        · by_cases c3 : x = i - 1
          · rw [c3, at2, at3 y (by omega)]; exact hi' y (by omega) x3
          · rw [at3 x (by omega), at3 y (by omega)]; exact sortedBy_le sr (by omega) (by omega) (by omega)
      · refine fil_within (p := a) (q := i) (Nat.le_refl _) (by omega) (by omega) P.2.1 v (rotated_fil R (by omega) (by omega) (fun x y x1 x2 y1 y2 => ?_) v)
        obtain rfl : x = a := by omega
        exact lo y (by omega) y2
    · rename_i hm1
      split
      · -- one element on the right
        rename_i hb1
        obtain ⟨r1, r2, e1, e2⟩ := bsearch_spec (fun h => !ltBy μ d[m]! d[h]!) a m (by omega)
        generalize bsearch (fun h => !ltBy μ d[m]! d[h]!) a m = i at *
        have lo : ∀ t, a ≤ t → t < i → μ d[t]! ≤ μ d[m]! := fun t t1 t2 => by
          rcases e1 with e | e
          · omega
          · simp only [ltBy, Bool.not_eq_true', decide_eq_false_iff_not, Int.not_lt] at e
            have := sortedBy_le sl t1 (show t ≤ i - 1 by omega) (by omega)
            omega
        have hi' : ∀ t, i ≤ t → t < m → μ d[m]! < μ d[t]! := fun t t1 t2 => by
          rcases e2 with e | e
          · omega
          · simp only [ltBy, Bool.not_eq_false', decide_eq_true_eq] at e
            have := sortedBy_le sl (show a ≤ i by omega) t1 t2
            omega
        obtain ⟨R, P⟩ := downLoop_spec (m + 1) (m - i) m d (by omega) (by omega) rfl
        rw [show m - (m - i) = i by omega] at R P
        generalize downLoop (m - i) m d = d' at R P ⊢
        have g := R.2
        refine ⟨sortedBy.2 fun x y x1 x2 x3 => ?_, fun v => ?_⟩
        · have at1 : ∀ t, t < i → d'[t]! = d[t]! := fun t t1 => by rw [g, if_neg (by omega), if_neg (by omega)]
          have at2 : d'[i]! = d[m]! := by rw [g, if_pos (by omega)]; congr 1; omega
          have at3 : ∀ t, i < t → t < b → d'[t]! = d[t - 1]! := fun t t1 t2 => by rw [g, if_neg (by omega), if_pos (by omega)]; congr 1; omega
          by_cases c1 : x < i
          · rw [at1 x c1]
            by_cases c2 : y < i
            · rw [at1 y c2]; exact sortedBy_le sl (by omega) (by omega) (by omega)
            · by_cases c3 : y = i
              · rw [c3, at2]; exact lo x (by omega) c1
              · rw [at3 y (by omega) x3]; exact sortedBy_le sl (by omega) (by omega) (by omega)
          · by_cases c3 : x = i
            · rw [c3, at2, at3 y (by omega) x3]
              have := hi' (y - 1) (by omega) (by omega); omega
            · rw [at3 x (by omega) (by omega), at3 y (by omega) x3]; exact sortedBy_le sl (by omega) (by omega) (by omega)
        · refine fil_within (p := i) (q := m + 1) (by omega) (by omega) (by omega) P.2.1 v (rotated_fil R (by omega) (by omega) (fun x y x1 x2 y1 y2 => ?_) v)
          obtain rfl : y = m := by omega
          exact hi' x x1 x2
      · rename_i hb1
        dsimp only
        have hs : (if m > (a + b) / 2 then (a + b) / 2 + m - b else a) ≤ (if m > (a + b) / 2 then (a + b) / 2 else m) := by split <;> omega
        obtain ⟨r0, r0', e1, e2⟩ := bsearch_spec (fun c => !ltBy μ d[(a + b) / 2 + m - 1 - c]! d[c]!) _ _ hs
        generalize bsearch (fun c => !ltBy μ d[(a + b) / 2 + m - 1 - c]! d[c]!) _ _ = st at *
        have r1 : a ≤ st ∧ st ≤ m ∧ st ≤ (a + b) / 2 ∧ m ≤ (a + b) / 2 + m - st ∧ (a + b) / 2 + m - st ≤ b ∧ (a + b) / 2 ≤ (a + b) / 2 + m - st ∧ a < (a + b) / 2 ∧ (a + b) / 2 < b := by
          split at r0 <;> split at r0' <;> omega
        generalize hmid : (a + b) / 2 = mid at *
        obtain ⟨e, he⟩ : ∃ q, q = mid + m - st := ⟨_, rfl⟩
        rw [← he] at r1
        obtain ⟨q1, q2, q3, q4, q5, q6, q7, q8⟩ := r1
        -- the two edges
        have E1 : st = a ∨ e = b ∨ μ d[st - 1]! ≤ μ d[e]! := by
          rcases e1 with h | h
          · split at h
            · right; left; omega
            · left; exact h
          · simp only [ltBy, Bool.not_eq_true', decide_eq_false_iff_not, Int.not_lt] at h
            by_cases c0 : st = a
            · exact Or.inl c0
            · right; right
              rwa [show mid + m - 1 - (st - 1) = e by omega] at h
        have E2 : st = m ∨ e = m ∨ μ d[e - 1]! < μ d[st]! := by
          rcases e2 with h | h
          · split at h
            · right; left; omega
            · left; exact h
          · simp only [ltBy, Bool.not_eq_false', decide_eq_true_eq] at h
            right; right
            rwa [show mid + m - 1 - st = e - 1 by omega] at h
        clear e1 e2 hs r0 r0'
        rw [← he]
        -- behind the rotation
        have H1 : ∃ d1, (if st < m ∧ m < e then rotate d st m e else d) = d1 ∧ Rotated st m e d d1 ∧ PermIn a b d d1 := by
          refine ⟨_, rfl, ?_⟩
          split
          · rename_i c
            obtain ⟨R, P⟩ := rotate_spec d st m e c.1 c.2 (by omega)
            exact ⟨R, permIn_mono _ _ st e a b q1 q5 hb P⟩
          · rename_i c
            refine ⟨⟨rfl, fun t => ?_⟩, permIn_refl d a b⟩
            repeat' split
            all_goals first | omega | (congr 1; omega) | rfl
        obtain ⟨d1, hd1, R, P1⟩ := H1
        rw [hd1]
        clear hd1
        have g := R.2
        have b1 : b ≤ d1.size := by rw [P1.1]; exact hb
        -- where what stands, by parts
        have A1 : ∀ t, t < st → d1[t]! = d[t]! := fun t t1 => by rw [g, if_neg (by omega), if_neg (by omega)]
        have A2 : ∀ t, st ≤ t → t < mid → d1[t]! = d[t - st + m]! := fun t t1 t2 => by rw [g, if_pos (by omega)]
        have A3 : ∀ t, mid ≤ t → t < e → d1[t]! = d[t - (e - m)]! := fun t t1 t2 => by rw [g, if_neg (by omega), if_pos (by omega)]
        have A4 : ∀ t, e ≤ t → d1[t]! = d[t]! := fun t t1 => by rw [g, if_neg (by omega), if_neg (by omega)]
        have s1 : SortedIn (ltBy μ) a st d1 := sortedBy.2 fun x y x1 x2 x3 => by rw [A1 x (by omega), A1 y x3]; exact sortedBy_le sl x1 (by omega) (by omega)
        have s2 : SortedIn (ltBy μ) st mid d1 := sortedBy.2 fun x y x1 x2 x3 => by rw [A2 x x1 (by omega), A2 y (by omega) x3]; exact sortedBy_le sr (by omega) (by omega) (by omega)
        have s3 : SortedIn (ltBy μ) mid e d1 := sortedBy.2 fun x y x1 x2 x3 => by rw [A3 x x1 (by omega), A3 y (by omega) x3]; exact sortedBy_le sl (by omega) (by omega) (by omega)
        have s4 : SortedIn (ltBy μ) e b d1 := sortedBy.2 fun x y x1 x2 x3 => by rw [A4 x x1, A4 y (by omega)]; exact sortedBy_le sr (by omega) (by omega) (by omega)
        -- nothing on the right of mid stands ahead of anything on its left
        have cross : ∀ x y, a ≤ x → x < mid → mid ≤ y → y < b → μ d1[x]! ≤ μ d1[y]! := fun x y x1 x2 y1 y2 => by
          by_cases cx : x < st
          · rw [A1 x cx]
            by_cases cy : y < e
            · rw [A3 y y1 cy]; exact sortedBy_le sl x1 (by omega) (by omega)
            · rw [A4 y (by omega)]
              have u := sortedBy_le sl x1 (show x ≤ st - 1 by omega) (by omega)
              have w := sortedBy_le sr (show m ≤ e by omega) (show e ≤ y by omega) y2
              rcases E1 with h | h | h
              · omega
              · omega
              · omega
          · rw [A2 x (by omega) x2]
            by_cases cy : y < e
            · rw [A3 y y1 cy]
              have u := sortedBy_le sr (show m ≤ x - st + m by omega) (show x - st + m ≤ e - 1 by omega) (by omega)
              have w := sortedBy_le sl (show a ≤ st by omega) (show st ≤ y - (e - m) by omega) (by omega)
              rcases E2 with h | h | h
              · omega
              · omega
              · omega
            · rw [A4 y (by omega)]; exact sortedBy_le sr (by omega) (by omega) y2
        have F1 : ∀ v, fil μ v (seg d1 a b) = fil μ v (seg d a b) := fun v => by
          refine fil_within (p := st) (q := e) q1 (by omega) q5 (fun t ht => ?_) v (rotated_fil R q2 q4 (fun x y x1 x2 y1 y2 => ?_) v)
          · rcases ht with ht | ht
            · exact A1 t ht
            · exact A4 t ht
          · have u := sortedBy_le sl (show a ≤ st by omega) x1 x2
            have w := sortedBy_le sr y1 (show y ≤ e - 1 by omega) (by omega)
            rcases E2 with h | h | h
            · omega
            · omega
            · omega
        -- the left half
        have H2 : ∃ d2, (if _h : (a < st ∧ st < mid) ∧ mid < b then symMerge (ltBy μ) d1 a st mid else d1) = d2 ∧ StableIn μ a mid d1 d2 := by
          refine ⟨_, rfl, ?_⟩
          split
          · exact ih a st mid d1 (by omega) (by omega) (by omega) (by omega) s1 s2
          · rename_i c
            refine StableIn.refl ?_
            by_cases c1 : a < st
            · obtain rfl : st = mid := by omega
              exact s1
            · obtain rfl : st = a := by omega
              exact s2
        obtain ⟨d2, hd2, P2, S2, F2⟩ := H2
        rw [hd2]
        clear hd2
        have b2 : b ≤ d2.size := by rw [P2.1]; exact b1
        have o2 : ∀ t, mid ≤ t → d2[t]! = d1[t]! := fun t ht => P2.2.1 t (Or.inr ht)
        have s3' : SortedIn (ltBy μ) mid e d2 := sortedBy.2 fun x y x1 x2 x3 => by rw [o2 x x1, o2 y (by omega)]; exact sortedBy_le s3 x1 (by omega) x3
        have s4' : SortedIn (ltBy μ) e b d2 := sortedBy.2 fun x y x1 x2 x3 => by rw [o2 x (by omega), o2 y (by omega)]; exact sortedBy_le s4 x1 (by omega) x3
        have H3 : ∃ d3, (if _h : (mid < e ∧ e < b) ∧ a < mid then symMerge (ltBy μ) d2 mid e b else d2) = d3 ∧ StableIn μ mid b d2 d3 := by
          refine ⟨_, rfl, ?_⟩
          split
          · exact ih mid e b d2 (by omega) (by omega) (by omega) b2 s3' s4'
          · rename_i c
            refine StableIn.refl ?_
            by_cases c1 : mid < e
            · obtain rfl : e = b := by omega
              exact s3'
            · obtain rfl : e = mid := by omega
              exact s4'
        obtain ⟨d3, hd3, P3, S3, F3⟩ := H3
        rw [hd3]
        clear hd3
        have o3 : ∀ t, t < mid → d3[t]! = d2[t]! := fun t ht => P3.2.1 t (Or.inl ht)
        -- the glue
        have c1 : ∀ x, a ≤ x → x < mid → ∀ y, mid ≤ y → y < b → μ d2[x]! ≤ μ d1[y]! := by
          have := permIn_all d1 d2 a mid (fun z => ∀ y, mid ≤ y → y < b → μ z ≤ μ d1[y]!) (by omega) P2 (fun x x1 x2 y y1 y2 => cross x y x1 x2 y1 y2)
          exact this
        have c2 : ∀ y, mid ≤ y → y < b → ∀ x, a ≤ x → x < mid → μ d2[x]! ≤ μ d3[y]! := by
          have := permIn_all d2 d3 mid b (fun z => ∀ x, a ≤ x → x < mid → μ d2[x]! ≤ μ z) b2 P3 (fun y y1 y2 x x1 x2 => by rw [o2 y y1]; exact c1 x x1 x2 y y1 y2)
          exact this
        refine ⟨sortedBy.2 fun x y x1 x2 x3 => ?_, fun v => ?_⟩
        · by_cases cx : x < mid
          · rw [o3 x cx]
            by_cases cy : y < mid
            · rw [o3 y cy]; exact sortedBy_le S2 x1 (by omega) cy
            · exact c2 y (by omega) x3 x x1 cx
          · exact sortedBy_le S3 (by omega) (by omega) x3
        · rw [← F1 v, fil_within (p := mid) (q := b) (by omega) (by omega) (Nat.le_refl _) P3.2.1 v (F3 v), fil_within (p := a) (q := mid) (Nat.le_refl _) (by omega) (by omega) P2.2.1 v (F2 v)]
end
end Go.Proofs.YtglgmkikegbchaaGreat
