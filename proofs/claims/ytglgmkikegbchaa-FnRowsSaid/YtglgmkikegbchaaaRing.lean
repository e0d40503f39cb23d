/- A ring of nodes: next and previous; one put in, one taken out. -/
import Derived.WalkKit
namespace Go.Proofs.Ytglgmkikegbchaa

/-- From a over l to b, there and back. -/
def Dbl (N P : Nat → Nat) : Nat → List Nat → Nat → Prop
  | a, [], b => N a = b ∧ P b = a
  | a, x :: l, b => N a = x ∧ P x = a ∧ Dbl N P x l b
theorem dbl_append {N P : Nat → Nat} : ∀ (l1 : List Nat) (a x : Nat) (l2 : List Nat) (b : Nat), Dbl N P a (l1 ++ x :: l2) b ↔ Dbl N P a l1 x ∧ Dbl N P x l2 b
  | [], a, x, l2, b => by simp [Dbl, and_assoc]
  | y :: l1, a, x, l2, b => by
    show (_ ∧ _ ∧ Dbl N P y (l1 ++ x :: l2) b) ↔ (_ ∧ _ ∧ Dbl N P y l1 x) ∧ _
    rw [dbl_append l1 y x l2 b]
    simp [and_assoc]
theorem dbl_congr {N P N' P' : Nat → Nat} : ∀ (l : List Nat) (a b : Nat), (∀ y ∈ a :: l, N' y = N y) → (∀ y ∈ l ++ [b], P' y = P y) → Dbl N P a l b → Dbl N' P' a l b
  | [], a, b, hN, hP, h => ⟨(hN a (by simp)).trans h.1, (hP b (by simp)).trans h.2⟩
  | x :: l, a, b, hN, hP, h => ⟨(hN a (by simp)).trans h.1, (hP x (by simp)).trans h.2.1, dbl_congr l x b (fun y hy => hN y (List.mem_cons_of_mem _ hy)) (fun y hy => hP y (by simp at hy ⊢; exact Or.inr hy)) h.2.2⟩
theorem dbl_first {N P : Nat → Nat} {a b : Nat} {l : List Nat} (h : Dbl N P a l b) : N a ∈ l ++ [b] ∧ P (N a) = a := by
  cases l with
  | nil => rw [h.1]; exact ⟨by simp, h.2⟩
  | cons x l => rw [h.1]; exact ⟨by simp, h.2.1⟩
theorem dbl_last {N P : Nat → Nat} : ∀ {l : List Nat} {a b : Nat}, Dbl N P a l b → P b = (a :: l).getLast (by simp) ∧ N ((a :: l).getLast (by simp)) = b
  | [], a, b, h => ⟨h.2, h.1⟩
  | x :: l, a, b, h => by
    rw [List.getLast_cons (by simp)]
    exact dbl_last h.2.2
/-- The last one of a and a row. -/
def lastOf (a : Nat) (l : List Nat) : Nat := (a :: l).getLast (by simp)
theorem lastOf_nil (a : Nat) : lastOf a [] = a := rfl
theorem lastOf_snoc (a x : Nat) (l : List Nat) : lastOf a (l ++ [x]) = x := by
  have h : ∀ (l : List Nat) (a : Nat), lastOf a (l ++ [x]) = x := fun l => by
    induction l with
    | nil => exact fun a => rfl
    | cons y l ih => exact fun a => (List.getLast_cons (by simp)).trans (ih y)
  exact h l a
theorem lastOf_mem (a : Nat) (l : List Nat) : lastOf a l ∈ a :: l := List.getLast_mem _
theorem dbl_at {N P : Nat → Nat} {a x b : Nat} {l1 l2 : List Nat} (h : Dbl N P a (l1 ++ x :: l2) b) : P x = lastOf a l1 ∧ N (lastOf a l1) = x := dbl_last ((dbl_append l1 a x l2 b).1 h).1
theorem dbl_end {N P : Nat → Nat} {a b : Nat} {l : List Nat} (h : Dbl N P a l b) : P b = lastOf a l ∧ N (lastOf a l) = b := dbl_last h

theorem snoc_or (l : List Nat) : l = [] ∨ ∃ l' x, l = l' ++ [x] := by
  rcases List.eq_nil_or_concat l with h | ⟨l', x, h⟩
  · exact Or.inl h
  · exact Or.inr ⟨l', x, by simpa using h⟩

theorem dbl_next {N P : Nat → Nat} : ∀ {l : List Nat} {a b : Nat}, Dbl N P a l b → ∀ y ∈ a :: l, N y ∈ l ++ [b] ∧ P (N y) = y
  | [], a, b, h, y, hy => by
    obtain rfl : y = a := by simpa using hy
    rw [h.1]; exact ⟨by simp, h.2⟩
  | x :: l, a, b, h, y, hy => by
    rcases List.mem_cons.1 hy with rfl | hy
    · rw [h.1]; exact ⟨by simp, h.2.1⟩
    · have := dbl_next h.2.2 y hy
      exact ⟨by rw [List.cons_append]; exact List.mem_cons_of_mem _ this.1, this.2⟩
theorem dbl_prev {N P : Nat → Nat} : ∀ {l : List Nat} {a b : Nat}, Dbl N P a l b → ∀ y ∈ l ++ [b], P y ∈ a :: l ∧ N (P y) = y
  | [], a, b, h, y, hy => by
    obtain rfl : y = b := by simpa using hy
    rw [h.2]; exact ⟨by simp, h.1⟩
  | x :: l, a, b, h, y, hy => by
    rw [List.cons_append] at hy
    rcases List.mem_cons.1 hy with rfl | hy
    · rw [h.2.1]; exact ⟨by simp, h.1⟩
    · have := dbl_prev h.2.2 y hy
      exact ⟨List.mem_cons_of_mem _ this.1, this.2⟩
/-- In a ring. -/
theorem ring_next {N P : Nat → Nat} {L : Nat} {l : List Nat} (h : Dbl N P L l L) {y : Nat} (hy : y ∈ L :: l) : N y ∈ L :: l ∧ P (N y) = y := by
  have := dbl_next h y hy
  exact ⟨by have := this.1; simp at this ⊢; exact this.symm, this.2⟩
theorem ring_prev {N P : Nat → Nat} {L : Nat} {l : List Nat} (h : Dbl N P L l L) {y : Nat} (hy : y ∈ L :: l) : P y ∈ L :: l ∧ N (P y) = y :=
  dbl_prev h y (by simp at hy ⊢; exact hy.symm)

/-- Behind the last of l1 one is put in. -/
theorem dbl_ins {N P N' P' : Nat → Nat} {L e : Nat} {l1 l2 : List Nat} (h : Dbl N P L (l1 ++ l2) L) (hd : (L :: e :: (l1 ++ l2)).Nodup)
    (hN : ∀ y ∈ L :: (l1 ++ e :: l2), N' y = if y = lastOf L l1 then e else if y = e then N (lastOf L l1) else N y)
    (hP : ∀ y ∈ L :: (l1 ++ e :: l2), P' y = if y = N (lastOf L l1) then e else if y = e then lastOf L l1 else P y) : Dbl N' P' L (l1 ++ e :: l2) L := by
  have key : ∀ c, c = lastOf L l1 → (c = L ∧ l1 = [] ∨ ∃ l', l1 = l' ++ [c]) → Dbl N' P' L (l1 ++ e :: l2) L := by
    intro c hc hor
    rw [← hc] at hN hP
    simp only [List.nodup_cons, List.mem_cons, not_or] at hd
    obtain ⟨⟨hLe, hL⟩, he, hn⟩ := hd
    have hseg : ∀ (c : Nat), Dbl N P c l2 L → c ≠ e → e ∉ l2 → c ∉ l2 → L ∉ l2 → l2.Nodup → e ≠ L → (∀ y ∈ c :: e :: l2, N' y = if y = c then e else if y = e then N c else N y) → (∀ y ∈ e :: (l2 ++ [L]), P' y = if y = N c then e else if y = e then c else P y) → Dbl N' P' c (e :: l2) L := by
      intro c h hce hel hcl hLl hnd heL hN hP
      have hne : e ≠ N c := fun h' => by
        have := (dbl_first h).1
        rw [← h'] at this
        rcases List.mem_append.1 this with h1 | h1
        · exact hel h1
        · exact heL (List.mem_singleton.1 h1)
      refine ⟨by rw [hN c (by simp), if_pos rfl], by rw [hP e (by simp), if_neg hne, if_pos rfl], ?_⟩
      cases l2 with
      | nil => exact ⟨by rw [hN e (by simp), if_neg (fun h => hce h.symm), if_pos rfl]; exact h.1, by rw [hP L (by simp), if_pos h.1.symm]⟩
      | cons x l =>
        refine ⟨by rw [hN e (by simp), if_neg (fun h => hce h.symm), if_pos rfl]; exact h.1, by rw [hP x (by simp), if_pos h.1.symm], dbl_congr l x L (fun y hy => ?_) (fun y hy => ?_) h.2.2⟩
        · rw [hN y (by simp at hy ⊢; grind), if_neg (fun h' => hcl (by rw [← h']; exact hy)), if_neg (fun h' => hel (by rw [← h']; exact hy))]
        · have h1 : y ≠ N c := fun h' => by
            rw [h', h.1] at hy
            rcases List.mem_append.1 hy with h2 | h2
            · exact (List.nodup_cons.1 hnd).1 h2
            · exact hLl (by rw [← List.mem_singleton.1 h2]; exact List.mem_cons_self)
          have h2 : y ≠ e := fun h' => by
            rw [h'] at hy
            rcases List.mem_append.1 hy with h2 | h2
            · exact hel (List.mem_cons_of_mem _ h2)
            · exact heL (List.mem_singleton.1 h2)
          rw [hP y (by simp at hy ⊢; grind), if_neg h1, if_neg h2]
    rcases hor with ⟨rfl, rfl⟩ | ⟨l', rfl⟩
    · simp only [List.nil_append] at h hL he hn hN hP ⊢
      exact hseg c h hLe he hL hL hn (fun h => hLe h.symm) (fun y hy => hN y hy) (fun y hy => hP y (by simp at hy ⊢; grind))
    · rw [List.append_assoc] at h ⊢
      simp only [List.cons_append, List.nil_append] at h ⊢
      rw [dbl_append] at h ⊢
      simp only [List.append_assoc, List.cons_append, List.nil_append, List.mem_append, List.mem_cons, List.nodup_append, List.nodup_cons, not_or] at hL he hn hN hP
      obtain ⟨h1, h2⟩ := h
      have hNc := (dbl_first h2).1
      have hcl' : c ∉ l' := fun h => hn.2.2 c h c (Or.inl rfl) rfl
      refine ⟨dbl_congr l' L c (fun y hy => ?_) (fun y hy => ?_) h1, hseg c h2 (fun h => he.2.1 h.symm) he.2.2 hn.2.1.1 hL.2.2 hn.2.1.2 (fun h => hLe h.symm) (fun y hy => hN y (by simp at hy ⊢; grind)) (fun y hy => hP y (by simp at hy ⊢; grind))⟩
      · have hy' : y = L ∨ y ∈ l' := by simpa using hy
        rw [hN y (by grind), if_neg (fun h => by subst h; rcases hy' with h | h; exact hL.2.1 h.symm; exact hcl' h), if_neg (fun h => by subst h; rcases hy' with h | h; exact hLe h.symm; exact he.1 h)]
      · have hy' : y ∈ l' ∨ y = c := by simpa using hy
        rw [hP y (by grind), if_neg (fun h => ?_), if_neg (fun h => by subst h; rcases hy' with h | h; exact he.1 h; exact he.2.1 h)]
        rw [← h] at hNc
        have hNc' : y ∈ l2 ∨ y = L := by simpa using hNc
        rcases hy' with g | g <;> rcases hNc' with k | k
        · exact hn.2.2 y g y (Or.inr k) rfl
        · subst k; exact hL.1 g
        · subst g; exact hn.2.1.1 k
        · subst g; exact hL.2.1 k.symm
  rcases snoc_or l1 with h1 | ⟨l', x, h1⟩
  · exact key L (by rw [h1]; rfl) (Or.inl ⟨rfl, h1⟩)
  · exact key x (by rw [h1, lastOf_snoc]) (Or.inr ⟨l', h1⟩)

/-- One is taken out. -/
theorem dbl_del {N P N' P' : Nat → Nat} {L e : Nat} {l1 l2 : List Nat} (h : Dbl N P L (l1 ++ e :: l2) L) (hd : (L :: (l1 ++ e :: l2)).Nodup)
    (hN : ∀ y ∈ L :: (l1 ++ l2), N' y = if y = P e then N e else N y)
    (hP : ∀ y ∈ L :: (l1 ++ l2), P' y = if y = N e then P e else P y) : Dbl N' P' L (l1 ++ l2) L := by
  have hPe := (dbl_at h).1
  rw [hPe] at hN hP
  simp only [List.nodup_cons, List.mem_cons, List.mem_append, not_or] at hd
  obtain ⟨⟨hL1, hLe, hL2⟩, hn⟩ := hd
  have hseg : ∀ c, Dbl N P c (e :: l2) L → c ∉ e :: l2 → (e :: l2).Nodup → L ∉ e :: l2 → (∀ y ∈ c :: l2, N' y = if y = c then N e else N y) → (∀ y ∈ l2 ++ [L], P' y = if y = N e then c else P y) → Dbl N' P' c l2 L := by
    intro c h hc hl hb hN hP
    obtain ⟨h1, h2, h3⟩ := h
    cases l2 with
    | nil => exact ⟨by rw [hN c (by simp), if_pos rfl]; exact h3.1, by rw [hP L (by simp), if_pos h3.1.symm]⟩
    | cons x l =>
      refine ⟨by rw [hN c (by simp), if_pos rfl]; exact h3.1, by rw [hP x (by simp), if_pos h3.1.symm], dbl_congr l x L (fun y hy => ?_) (fun y hy => ?_) h3.2.2⟩
      · rw [hN y (List.mem_cons_of_mem _ hy), if_neg (fun h' => hc (by rw [← h']; exact List.mem_cons_of_mem _ hy))]
      · rw [hP y (by simp at hy ⊢; exact Or.inr hy), if_neg (fun h' => ?_)]
        rw [h', h3.1] at hy
        rcases List.mem_append.1 hy with h4 | h4
        · exact (List.nodup_cons.1 (List.nodup_cons.1 hl).2).1 h4
        · exact hb (by rw [← List.mem_singleton.1 h4]; simp)
  rcases snoc_or l1 with h1 | ⟨l', c, h1⟩
  · subst h1
    exact hseg L h (by simp; exact ⟨hLe, hL2⟩) hn (by simp; exact ⟨hLe, hL2⟩) (fun y hy => hN y hy) (fun y hy => hP y (by simp at hy ⊢; grind))
  · subst h1
    rw [lastOf_snoc] at hN hP
    rw [List.append_assoc] at h ⊢
    simp only [List.cons_append, List.nil_append] at h ⊢
    rw [dbl_append] at h ⊢
    simp only [List.append_assoc, List.cons_append, List.nil_append, List.mem_append, List.mem_cons, List.nodup_append, List.nodup_cons, not_or] at hL1 hn hN hP
    obtain ⟨h1, h2⟩ := h
    have hNe : N e ∈ l2 ++ [L] := (dbl_first h2.2.2).1
    refine ⟨dbl_congr l' L c (fun y hy => ?_) (fun y hy => ?_) h1, hseg c h2 (by grind) (by grind) (by grind) (fun y hy => hN y (by simp at hy; grind)) (fun y hy => hP y (by simp at hy; grind))⟩
    · have hy' : y = L ∨ y ∈ l' := by simpa using hy
      rw [hN y (by grind), if_neg (by grind)]
    · have hy' : y ∈ l' ∨ y = c := by simpa using hy
      rw [hP y (by grind), if_neg (fun h => ?_)]
      rw [← h] at hNe
      have hNe' : y ∈ l2 ∨ y = L := by simpa using hNe
      grind
end Go.Proofs.Ytglgmkikegbchaa
