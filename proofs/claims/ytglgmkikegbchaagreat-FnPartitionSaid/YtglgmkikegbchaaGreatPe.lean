/- Stability: insertionSort and stable leave those that are alike as they stood; a sorted list is told by them. -/
import Derived.Test.YtglgmkikegbchaaGreatPc
namespace Go.Proofs.YtglgmkikegbchaaGreat
open Go.Sort
variable {α : Type} [Inhabited α] {μ : α → Int}

theorem insInner_fil (a b : Nat) : ∀ (j : Nat) (d : Array α), j < b → b ≤ d.size → ∀ v, fil μ v (seg (insInner (ltBy μ) a j d) a b) = fil μ v (seg d a b)
  | 0, _, _, _, _ => rfl
  | j + 1, d, hj, hb, v => by
    rw [insInner]
    split
    · rename_i hc
      simp only [Bool.and_eq_true, decide_eq_true_eq] at hc
      rw [insInner_fil a b j _ (by omega) (by rw [size_swp]; exact hb)]
      have hr := (downLoop_spec (j + 2) 1 (j + 1) d (by omega) (by omega) rfl).1
      rw [Nat.add_sub_cancel] at hr
      have e : downLoop 1 (j + 1) d = swp d (j + 1) j := rfl
      rw [e] at hr
      refine fil_within (p := j) (q := j + 2) (by omega) (by omega) (by omega) (fun i hi => ?_) v (rotated_fil hr (by omega) (by omega) (fun i k h1 h2 h3 h4 => ?_) v)
      · rw [swp_at d (by omega) (by omega), if_neg (by omega), if_neg (by omega)]
      · obtain rfl : i = j := by omega
        obtain rfl : k = i + 1 := by omega
        simpa [ltBy] using hc.2
    · rfl
theorem insOuter_fil (a b : Nat) : ∀ (N i : Nat) (d : Array α), b - i ≤ N → b ≤ d.size → ∀ v, fil μ v (seg (insOuter (ltBy μ) a b i d) a b) = fil μ v (seg d a b) := by
  intro N
  induction N with
  | zero => intro i d h hb v; rw [insOuter, if_neg (by omega)]
  | succ N ih =>
    intro i d h hb v
    rw [insOuter]
    split
    · rename_i hi
      have hs := (insInner_perm (lt := ltBy μ) a b i d hi hb).1
      rw [ih _ _ (by omega) (by rw [hs]; exact hb), insInner_fil a b i d hi hb]
    · rfl
theorem insertionSort_stable (d : Array α) (a b : Nat) (hab : a ≤ b) (hb : b ≤ d.size) : StableIn μ a b d (insertionSort (ltBy μ) d a b) :=
  ⟨insertionSort_perm (lt := ltBy μ) d a b hb, (insertionSort_holds (swo_ltBy μ) d a b hab hb).2, insOuter_fil a b _ _ d (Nat.le_refl _) hb⟩

theorem sorted_of_same {a b : Nat} {d d' : Array α} (h : SortedIn (ltBy μ) a b d) (hs : ∀ i, a ≤ i → i < b → d'[i]! = d[i]!) : SortedIn (ltBy μ) a b d' :=
  sortedBy.2 fun i j h1 h2 h3 => by rw [hs i h1 (by omega), hs j (by omega) h3]; exact sortedBy.1 h i j h1 h2 h3
theorem sorted_part {a b p q : Nat} {d : Array α} (h : SortedIn (ltBy μ) a b d) (h1 : a ≤ p) (h2 : q ≤ b) : SortedIn (ltBy μ) p q d :=
  sortedBy.2 fun i j g1 g2 g3 => sortedBy.1 h i j (by omega) g2 (by omega)
theorem sorted_none {a b : Nat} {d : Array α} (h : b ≤ a) : SortedIn (ltBy μ) a b d := sortedBy.2 fun i j g1 g2 g3 => by omega

theorem insBlocks_stable (s n : Nat) (hs : 0 < s) : ∀ (N a : Nat) (d : Array α), n - a ≤ N → a ≤ n → n ≤ d.size →
    PermIn a n d (insBlocks (ltBy μ) s n a d) ∧ (∀ v, fil μ v (seg (insBlocks (ltBy μ) s n a d) a n) = fil μ v (seg d a n)) ∧ ∀ t, SortedIn (ltBy μ) (a + t * s) (min (a + t * s + s) n) (insBlocks (ltBy μ) s n a d) := by
  intro N
  induction N with
  | zero =>
    intro a d h ha hn
    rw [insBlocks, dif_neg (by omega)]
    have hst := insertionSort_stable (μ := μ) d a n ha hn
    exact ⟨hst.1, hst.2.2, fun t => sorted_none (by omega)⟩
  | succ N ih =>
    intro a d h ha hn
    rw [insBlocks]
    split
    · rename_i hc
      have hst := insertionSort_stable (μ := μ) d a (a + s) (by omega) (by omega)
      generalize insertionSort (ltBy μ) d a (a + s) = d1 at hst ⊢
      obtain ⟨q1, q2, q3⟩ := ih (a + s) d1 (by omega) (by omega) (by rw [hst.1.1]; exact hn)
      generalize insBlocks (ltBy μ) s n (a + s) d1 = d2 at q1 q2 q3 ⊢
      refine ⟨permIn_trans _ _ _ _ _ (permIn_mono _ _ a (a + s) a n (Nat.le_refl _) hc.1 hn hst.1) (permIn_mono _ _ (a + s) n a n (by omega) (Nat.le_refl _) (by rw [hst.1.1]; exact hn) q1), fun v => ?_, fun t => ?_⟩
      · exact (fil_within (p := a + s) (q := n) (by omega) (by omega) (Nat.le_refl _) (fun i hi => q1.2.1 i hi) v (q2 v)).trans (fil_within (p := a) (q := a + s) (Nat.le_refl _) (by omega) (by omega) (fun i hi => hst.1.2.1 i hi) v (hst.2.2 v))
      · cases t with
        | zero =>
          refine sorted_part (sorted_of_same hst.2.1 (fun i h1 h2 => q1.2.1 i (Or.inl h2))) (by omega) (by omega)
        | succ t =>
          have := q3 t
          rwa [show a + s + t * s = a + (t + 1) * s by rw [Nat.add_mul]; omega] at this
    · rename_i hc
      have hst := insertionSort_stable (μ := μ) d a n ha hn
      refine ⟨hst.1, hst.2.2, fun t => ?_⟩
      cases t with
      | zero => exact sorted_part hst.2.1 (by omega) (by omega)
      | succ t => exact sorted_none (by rw [Nat.add_mul]; omega)

theorem mergePass_stable (s n : Nat) (hs : 0 < s) : ∀ (N a : Nat) (d : Array α), n - a ≤ N → n ≤ d.size → (∀ t, SortedIn (ltBy μ) (a + t * s) (min (a + t * s + s) n) d) →
    PermIn a n d (mergePass (ltBy μ) s n a d) ∧ (∀ v, fil μ v (seg (mergePass (ltBy μ) s n a d) a n) = fil μ v (seg d a n)) ∧ ∀ t, SortedIn (ltBy μ) (a + t * (s * 2)) (min (a + t * (s * 2) + s * 2) n) (mergePass (ltBy μ) s n a d) := by
  intro N
  induction N with
  | zero =>
    intro a d h hn hd
    rw [mergePass, dif_neg (by omega), if_neg (by omega)]
    exact ⟨permIn_refl d a n, fun _ => rfl, fun t => sorted_none (by omega)⟩
  | succ N ih =>
    intro a d h hn hd
    rw [mergePass]
    have h0 := hd 0
    have h1 := hd 1
    rw [Nat.zero_mul, Nat.add_zero] at h0
    rw [Nat.one_mul] at h1
    split
    · rename_i hc
      have hst := symMerge_stable (μ := μ) _ a (a + s) (a + 2 * s) d (Nat.le_refl _) (by omega) (by omega) (by omega) (sorted_part h0 (Nat.le_refl _) (by omega)) (sorted_part h1 (Nat.le_refl _) (by omega))
      generalize symMerge (ltBy μ) d a (a + s) (a + 2 * s) = d1 at hst ⊢
      obtain ⟨q1, q2, q3⟩ := ih (a + 2 * s) d1 (by omega) (by rw [hst.1.1]; exact hn) (fun t => by
        have := hd (t + 2)
        rw [show a + (t + 2) * s = a + 2 * s + t * s by rw [Nat.add_mul]; omega] at this
        exact sorted_of_same this (fun i g1 g2 => hst.1.2.1 i (Or.inr (by omega))))
      generalize mergePass (ltBy μ) s n (a + 2 * s) d1 = d2 at q1 q2 q3 ⊢
      refine ⟨permIn_trans _ _ _ _ _ (permIn_mono _ _ a (a + 2 * s) a n (Nat.le_refl _) hc.1 hn hst.1) (permIn_mono _ _ (a + 2 * s) n a n (by omega) (Nat.le_refl _) (by rw [hst.1.1]; exact hn) q1), fun v => ?_, fun t => ?_⟩
      · exact (fil_within (p := a + 2 * s) (q := n) (by omega) (by omega) (Nat.le_refl _) (fun i hi => q1.2.1 i hi) v (q2 v)).trans (fil_within (p := a) (q := a + 2 * s) (Nat.le_refl _) (by omega) (by omega) (fun i hi => hst.1.2.1 i hi) v (hst.2.2 v))
      · cases t with
        | zero => exact sorted_part (sorted_of_same hst.2.1 (fun i g1 g2 => q1.2.1 i (Or.inl g2))) (by omega) (by omega)
        | succ t =>
          have := q3 t
          rwa [show a + 2 * s + t * (s * 2) = a + (t + 1) * (s * 2) by rw [Nat.add_mul]; omega] at this
    · rename_i hc
      split
      · rename_i hc2
        have hst := symMerge_stable (μ := μ) _ a (a + s) n d (Nat.le_refl _) (by omega) hc2 hn (sorted_part h0 (Nat.le_refl _) (by omega)) (sorted_part h1 (Nat.le_refl _) (by omega))
        refine ⟨hst.1, hst.2.2, fun t => ?_⟩
        cases t with
        | zero => exact sorted_part hst.2.1 (by omega) (by omega)
        | succ t => exact sorted_none (by rw [Nat.add_mul]; omega)
      · refine ⟨permIn_refl d a n, fun _ => rfl, fun t => ?_⟩
        cases t with
        | zero => exact sorted_part h0 (by omega) (by omega)
        | succ t => exact sorted_none (by rw [Nat.add_mul]; omega)

theorem stableLoop_stable (n : Nat) : ∀ (N s : Nat) (d : Array α), n - s ≤ N → 0 < s → n ≤ d.size → (∀ t, SortedIn (ltBy μ) (0 + t * s) (min (0 + t * s + s) n) d) → StableIn μ 0 n d (stableLoop (ltBy μ) n s d) := by
  intro N
  induction N with
  | zero =>
    intro s d h hs hn hd
    rw [stableLoop, dif_neg (by omega)]
    exact StableIn.refl (sorted_part (hd 0) (by omega) (by omega))
  | succ N ih =>
    intro s d h hs hn hd
    rw [stableLoop]
    split
    · rename_i hc
      obtain ⟨q1, q2, q3⟩ := mergePass_stable (μ := μ) s n hs _ 0 d (Nat.le_refl _) hn hd
      have r := ih (s * 2) (mergePass (ltBy μ) s n 0 d) (by omega) (by omega) (by rw [q1.1]; exact hn) q3
      exact ⟨permIn_trans _ _ _ _ _ q1 r.1, r.2.1, fun v => (r.2.2 v).trans (q2 v)⟩
    · exact StableIn.refl (sorted_part (hd 0) (by omega) (by omega))
theorem stable_stable (d : Array α) (n : Nat) (hn : n ≤ d.size) : StableIn μ 0 n d (stable (ltBy μ) d n) := by
  obtain ⟨q1, q2, q3⟩ := insBlocks_stable (μ := μ) 20 n (by decide) _ 0 d (Nat.le_refl _) (Nat.zero_le _) hn
  have r := stableLoop_stable (μ := μ) n _ 20 _ (Nat.le_refl _) (by decide) (by rw [q1.1]; exact hn) q3
  exact ⟨permIn_trans _ _ _ _ _ q1 r.1, r.2.1, fun v => (r.2.2 v).trans (q2 v)⟩

/-! ### a list in the order, and by putting one behind the other into its place -/
section
omit [Inhabited α]
def Asc (μ : α → Int) (l : List α) : Prop := l.Pairwise fun x y => μ x ≤ μ y
theorem asc_unique : ∀ (l k : List α), Asc μ l → Asc μ k → (∀ v, fil μ v l = fil μ v k) → l = k
  | [], [], _, _, _ => rfl
  | [], y :: k, _, _, h => by
    have := h (μ y)
    simp [fil] at this
  | x :: l, [], _, _, h => by
    have := h (μ x)
    simp [fil] at this
  | x :: l, y :: k, hl, hk, h => by
    have hx : x ∈ y :: k := by
      have : x ∈ fil μ (μ x) (y :: k) := by rw [← h]; simp [fil]
      exact (List.mem_filter.1 this).1
    have hy : y ∈ x :: l := by
      have : y ∈ fil μ (μ y) (x :: l) := by rw [h]; simp [fil]
      exact (List.mem_filter.1 this).1
    have le1 : μ y ≤ μ x := by
      rcases List.mem_cons.1 hx with rfl | hx
      · exact Int.le_refl _
      · exact (List.pairwise_cons.1 hk).1 x hx
    have le2 : μ x ≤ μ y := by
      rcases List.mem_cons.1 hy with rfl | hy
      · exact Int.le_refl _
      · exact (List.pairwise_cons.1 hl).1 y hy
    have e : μ x = μ y := by omega
    have hh := h (μ x)
    unfold fil at hh
    rw [List.filter_cons_of_pos (by simp), List.filter_cons_of_pos (by simp [e])] at hh
    injection hh with e1 e2
    subst e1
    rw [asc_unique l k (List.pairwise_cons.1 hl).2 (List.pairwise_cons.1 hk).2 (fun v => ?_)]
    have hv := h v
    unfold fil at hv ⊢
    rw [List.filter_cons, List.filter_cons] at hv
    split at hv
    · injection hv
    · exact hv
end

/-- A list with an element put ahead of the place p. -/
def insAt (l : List α) (p : Nat) (x : α) : List α := l.take p ++ x :: l.drop p
/-- By putting one behind the other into its place: the first one whose element stands behind. -/
def stablyFrom (lt : α → α → Bool) (out : List α) : List α → List α
  | [] => out
  | x :: l => stablyFrom lt (insAt out (bsearch (fun m => !lt x out[m]!) 0 out.length) x) l
def stablyP (lt : α → α → Bool) (l : List α) : List α := stablyFrom lt [] l

theorem asc_insAt (out : List α) (x : α) (h : Asc μ out) : Asc μ (insAt out (bsearch (fun m => !ltBy μ x out[m]!) 0 out.length) x) ∧ ∀ v, fil μ v (insAt out (bsearch (fun m => !ltBy μ x out[m]!) 0 out.length) x) = fil μ v (out ++ [x]) := by
  obtain ⟨b1, b2, b3, b4⟩ := bsearch_spec (fun m => !ltBy μ x out[m]!) 0 out.length (Nat.zero_le _)
  generalize bsearch (fun m => !ltBy μ x out[m]!) 0 out.length = p at b1 b2 b3 b4 ⊢
  have hget : ∀ (i j : Nat) (hij : i ≤ j) (hj : j < out.length), μ (out[i]'(Nat.lt_of_le_of_lt hij hj)) ≤ μ out[j] := fun i j hij hj => by
    rcases Nat.lt_or_ge i j with e | e
    · exact (List.pairwise_iff_getElem.1 h) i j (by omega) hj e
    · obtain rfl : i = j := by omega
      exact Int.le_refl _
  have hlo : ∀ y ∈ out.take p, μ y ≤ μ x := fun y hy => by
    obtain ⟨i, hi, rfl⟩ := List.mem_iff_getElem.1 hy
    have hi' : i < p := by have := hi; rw [List.length_take] at this; omega
    rw [List.getElem_take]
    rcases b3 with rfl | b3
    · omega
    · simp only [Bool.not_eq_true', ltBy, decide_eq_false_iff_not, Int.not_lt] at b3
      rw [getElem!_pos out (p - 1) (by omega)] at b3
      exact Int.le_trans (hget i (p - 1) (by omega) (by omega)) b3
  have hhi : ∀ y ∈ out.drop p, μ x < μ y := fun y hy => by
    obtain ⟨i, hi, rfl⟩ := List.mem_iff_getElem.1 hy
    have hi' : p + i < out.length := by have := hi; rw [List.length_drop] at this; omega
    rw [List.getElem_drop]
    rcases b4 with rfl | b4
    · omega
    · simp only [Bool.not_eq_false', ltBy, decide_eq_true_eq] at b4
      rw [getElem!_pos out p (by omega)] at b4
      exact Int.lt_of_lt_of_le b4 (hget p (p + i) (by omega) hi')
  have hs : Asc μ (out.take p ++ out.drop p) := by rw [List.take_append_drop]; exact h
  obtain ⟨s1, s2, s3⟩ := List.pairwise_append.1 hs
  constructor
  · refine List.pairwise_append.2 ⟨s1, List.pairwise_cons.2 ⟨fun y hy => Int.le_of_lt (hhi y hy), s2⟩, fun y hy z hz => ?_⟩
    rcases List.mem_cons.1 hz with rfl | hz
    · exact hlo y hy
    · exact s3 y hy z hz
  · intro v
    unfold insAt
    rw [show out.take p ++ x :: out.drop p = out.take p ++ ([x] ++ out.drop p) from rfl, fil_append, fil_append μ v [x]]
    conv => rhs; rw [← List.take_append_drop p out]
    rw [fil_append, fil_append, List.append_assoc]
    congr 1
    by_cases hx : μ x = v
    · have : fil μ v (out.drop p) = [] := fil_nil_of μ fun y hy => by have := hhi y hy; omega
      rw [this]; simp
    · have : fil μ v [x] = [] := fil_nil_of μ fun y hy => by rw [List.mem_singleton.1 hy]; exact hx
      rw [this]; simp
theorem asc_stablyFrom : ∀ (l out : List α), Asc μ out → Asc μ (stablyFrom (ltBy μ) out l) ∧ ∀ v, fil μ v (stablyFrom (ltBy μ) out l) = fil μ v (out ++ l)
  | [], out, h => ⟨h, fun v => by rw [List.append_nil]; rfl⟩
  | x :: l, out, h => by
    obtain ⟨h1, h2⟩ := asc_insAt out x h
    obtain ⟨h3, h4⟩ := asc_stablyFrom l _ h1
    refine ⟨h3, fun v => ?_⟩
    rw [stablyFrom, h4, fil_append, h2, ← fil_append]
    simp
/-- What a stable sort of a part leaves there. -/
theorem stably_of {a b : Nat} {d d' : Array α} (h : StableIn μ a b d d') (_hab : a ≤ b) : seg d' a b = stablyP (ltBy μ) (seg d a b) := by
  obtain ⟨h1, h2⟩ := asc_stablyFrom (μ := μ) (seg d a b) [] List.Pairwise.nil
  refine asc_unique _ _ ?_ h1 (fun v => (h.2.2 v).trans (h2 v).symm)
  refine List.pairwise_iff_getElem.2 fun i j hi hj hij => ?_
  rw [seg_get, seg_get]
  rw [seg_length] at hj
  exact sortedBy.1 h.2.1 (a + i) (a + j) (by omega) (by omega) (by omega)
end Go.Proofs.YtglgmkikegbchaaGreat
