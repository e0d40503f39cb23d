/- A region that draws its order: operations that only read, then ONE that may do whatever it likes (a call that writes), then again such as only read, which may come in any order among themselves. -/
import Derived.StillTail
import Derived.StillTactics
namespace Go.Proofs.YtglgmkikegbchaaGreat
open Go
section
variable {P : Program} {ops : Array Oper} {md : Region.Mode} {w : World}

/-- Each operation behind the n-th one waits for one that is not ahead of the n-th. -/
def tiedB (md : Region.Mode) (ops : Array Oper) (n : Nat) : Bool :=
  (List.range ops.size).all fun t => decide (t ≤ n) || (List.range t).any fun j => decide (n ≤ j) && Region.waitsFor md ops t j

/-- As long as one ahead of the n-th has not been, none from the n-th on comes up. -/
theorem late_waits {n : Nat} {listed : Array Bool} (hs : Region.sinkB md ops n = true) (hc : tiedB md ops n = true) (hn : n < ops.size) (inv : HeadInv md ops n listed) :
    ∀ (d i : Nat), n - i = d → i < n → listed.getD i true = false → ∀ t, n ≤ t → t ∉ Region.ready md ops listed := by
  intro d
  induction d using Nat.strongRecOn with
  | _ d ih =>
    intro i hd hi hun t ht hr
    obtain ⟨_, ot, hot, hall⟩ := mem_ready.1 hr
    have htlt : t < ops.size := (Array.getElem?_eq_some_iff.1 hot).1
    have clash : ∀ j, Region.waitsFor md ops t j = true → listed.getD j true = false → False := fun j hw hj => by
      obtain ⟨o', ho', e, he, hb, hon⟩ := Region.waitsFor_spec hw
      cases Option.some.inj (ho'.symm.trans hot)
      have h2 := hall e he hb
      rw [hon, getD_both hj] at h2
      cases h2
    rcases Nat.eq_or_lt_of_le ht with rfl | hlt
    · obtain ⟨j, hj, hj2⟩ := List.any_eq_true.1 (List.all_eq_true.1 hs i (List.mem_range.2 hi))
      simp only [Bool.and_eq_true, decide_eq_true_eq] at hj2
      have hjn := List.mem_range.1 hj
      by_cases hjt : j = n
      · subst hjt; exact clash i hj2.2 hun
      · obtain ⟨oj, hoj, e, he, hb, hon⟩ := Region.waitsFor_spec hj2.2
        cases hl : listed.getD j false with
        | true =>
          have h2 := inv.closed j oj hoj hl e he hb
          rw [hon, getD_both hun] at h2
          cases h2
        | false => exact ih (n - j) (by omega) j rfl (by omega) (getD_in (by rw [inv.size]; omega) hl) n (Nat.le_refl _) hr
    · have h1 := List.all_eq_true.1 hc t (List.mem_range.2 htlt)
      simp only [Bool.or_eq_true, decide_eq_true_eq] at h1
      rcases h1 with h1 | h1
      · omega
      · obtain ⟨j, hj, hj2⟩ := List.any_eq_true.1 h1
        simp only [Bool.and_eq_true, decide_eq_true_eq] at hj2
        exact clash j hj2.2 (inv.tail j hj2.1 (by have := List.mem_range.1 hj; omega))

theorem head_first {n i : Nat} {oi : Oper} {v : Value} {L : Array Bool → Act → Prop} (hi : ops[i]? = some oi) (hsel : Region.noSelect ops = true)
    (hs : Region.sinkB md ops n = true) (hc : tiedB md ops n = true) (hn : n < ops.size) (hdone : ∀ listed a, L listed a → ∀ j ∈ Region.ready md ops listed, n ≤ j) :
    ∀ (f : Nat) (listed : Array Bool) (a : Act), HeadInv md ops n listed → i < n →
      (∀ j oj, ops[j]? = some oj → j ≠ i → listed.getD j true = false → (∀ e ∈ oj.after, Region.binds md e = true → e.on ≠ i) → oi.apart ops oj = true) →
      i ∈ Region.ready md ops listed → YieldsAt P ops w oi v a →
      wpAnyL P md ops w n L f (listed.setIfInBounds i true) (a.put oi.dst v) → wpAnyL P md ops w n L (f + 1) listed a := by
  intro f
  induction f with
  | zero =>
    intro listed a inv hin _ hr hy H
    refine ⟨List.ne_nil_of_mem hr, fun j hj => ?_⟩
    have hjn : j < n := Nat.lt_of_not_le fun h => late_waits hs hc hn inv _ i rfl hin (mem_ready.1 hr).1 j h hj
    refine ⟨hjn, ?_⟩
    by_cases hji : j = i
    · subst hji; exact hy.stOp hi H
    · exact absurd (hdone _ _ H j (ready_mono hj hji)) (by omega)
  | succ f ih =>
    intro listed a inv hin hfree hr hy H
    have hun := (mem_ready.1 hr).1
    refine ⟨List.ne_nil_of_mem hr, fun j hj => ?_⟩
    have hjn : j < n := Nat.lt_of_not_le fun h => late_waits hs hc hn inv _ i rfl hin hun j h hj
    refine ⟨hjn, ?_⟩
    by_cases hji : j = i
    · subst hji; exact hy.stOp hi H
    · obtain ⟨hjun, oj, hoj, hall⟩ := mem_ready.1 hj
      have hnot : ∀ e ∈ oj.after, Region.binds md e = true → e.on ≠ i := fun e he hb heq => by
        have h1 := hall e he hb
        rw [heq, getD_both hun] at h1
        cases h1
      have h2 := stOp_put hoj (hfree j oj hoj hji hjun hnot) (fun cs b => Region.noSelect_spec hsel i oi cs b hi) (fun cs b => Region.noSelect_spec hsel j oj cs b hoj) hy (H.2 j (ready_mono hj hji)).2
      refine stOp_mono (fun a' h3 => ih (listed.setIfInBounds j true) a' (inv.set hj hjn) hin (fun k ok hk hki hun hno => hfree k ok hk hki ?_ hno) (ready_mono hr (Ne.symm hji)) h3.1 ?_) h2
      · by_cases hjk : j = k
        · subst hjk; exact hjun
        · rw [getD_set_ne true hjk] at hun; exact hun
      · rw [Array.setIfInBounds_comm _ _ hji]
        exact h3.2

/-- The head goes in the order of the text; then the n-th alone comes up; then the rest, in the order of the text. -/
def headB (md : Region.Mode) (ops : Array Oper) (g n : Nat) : Nat → Nat → Array Bool → Bool
  | 0, _, listed => decide (Region.ready md ops listed = [n]) && Region.lexFrom md ops g (n + 1) (listed.setIfInBounds n true)
  | f + 1, k, listed => (Region.ready md ops listed).contains k && Region.free md ops listed k && headB md ops g n f (k + 1) (listed.setIfInBounds k true)
def midB (md : Region.Mode) (ops : Array Oper) (n : Nat) : Bool :=
  Region.noSelect ops && decide (n < ops.size) && Region.sinkB md ops n && tiedB md ops n && headB md ops (ops.size - (n + 1)) n n 0 (Array.replicate ops.size false)

theorem head_lex {n g : Nat} {Lq : Act → Prop} (hsel : Region.noSelect ops = true) (hs : Region.sinkB md ops n = true) (hc : tiedB md ops n = true) (hn : n < ops.size) :
    ∀ (l : List Oper) (k : Nat) (listed : Array Bool) (a : Act), (∀ j, j < l.length → l[j]? = ops[k + j]?) → k + l.length = n → HeadInv md ops n listed →
    headB md ops g n l.length k listed = true → wpStill P ops w Lq l a →
    wpAnyL P md ops w n (fun listed' a' => (Region.ready md ops listed' = [n] ∧ Region.lexFrom md ops g (n + 1) (listed'.setIfInBounds n true) = true) ∧ Lq a') l.length listed a
  | [], k, listed, a, _, _, _, hB, h => by
    simp only [List.length_nil, headB, Bool.and_eq_true, decide_eq_true_eq] at hB
    exact ⟨hB, h⟩
  | o :: l, k, listed, a, hl, hk, inv, hB, h => by
    have h0 : ops[k]? = some o := by simpa using (hl 0 (by simp)).symm
    simp only [List.length_cons, headB, Bool.and_eq_true] at hB
    obtain ⟨⟨hr, hf⟩, hB'⟩ := hB
    have hkn : k < n := by simp only [List.length_cons] at hk; omega
    have hr' : k ∈ Region.ready md ops listed := by simpa using hr
    have hst : stOp P ops w k (wpStill P ops w Lq l) a := by unfold stOp; simp only [h0]; exact h
    obtain ⟨v, hy, hK⟩ := yieldsAt_of_stOp h0 hst
    exact head_first h0 hsel hs hc hn (fun listed' a' hL j hj => by rw [hL.1.1] at hj; simp at hj; omega) l.length listed a inv hkn (Region.free_spec h0 hf) hr' hy
      (head_lex hsel hs hc hn l (k + 1) _ _ (fun j hj => by have := hl (j + 1) (by simp; omega); simpa [Nat.add_assoc, Nat.add_comm 1 j] using this) (by simp only [List.length_cons] at hk; omega) (inv.set hr' hkn) hB' hK)

theorem wp_other {o : Oper} {a : Act} {K K' : Act → World → Prop} {Q Q' : Exit → Act → World → Prop} (h : ∀ a w, K a w → K' a w) (hq : ∀ e a w, e ≠ .normal → Q e a w → Q' e a w) (hh : o.wp P a w K Q) : o.wp P a w K' Q' := by
  unfold Oper.wp at *
  generalize (execOp a.eval o).run P w = r at *
  cases r with
  | ok n w' =>
    cases n <;> simp only [Oper.upon] at hh ⊢ <;>
      first
        | exact h _ _ hh
        | exact Calls.mono hh (fun e w'' he => by
            cases e
            · exact h _ _ he
            · exact hq _ _ _ (fun h => by cases h) he
            · obtain ⟨a1, w1, h1⟩ := he; exact ⟨a1, w1, hq _ _ _ (fun h => by cases h) h1⟩)
        | exact Rows.mono hh (fun _ _ he => h _ _ he)
  | halt x w' => cases x <;> simp only [Oper.upon] at hh ⊢ <;> exact hq _ _ _ (fun h => by cases h) hh

theorem wp_region_still_mid {id : Nat} {Q : Exit → Act → World → Prop} {a : Act} {w : World} {l : List Oper} (n : Nat) (hm : P.follows .mixedOrders = true) (hB : midB .any l.toArray n = true)
    (h : ∀ Q1 : Exit → Act → World → Prop, (∀ a w, wpStill P l.toArray w (fun a' => Q .normal a' w) (l.drop (n + 1)) a → Q1 .normal a w) →
      wpStill P l.toArray { w with drawn := w.drawn + 1 } (fun a' => wpList P l.toArray Q1 ((l.drop n).take 1) a' { w with drawn := w.drawn + 1 }) (l.take n) a) : (Code.region id l.toArray true).wp P Q a w := by
  simp only [midB, Bool.and_eq_true, decide_eq_true_eq] at hB
  obtain ⟨⟨⟨⟨hsel, hn⟩, hs⟩, hc⟩, hlex⟩ := hB
  have hn' : n < l.length := by simpa using hn
  have htl : (l.take n).length = n := by simp; omega
  have hdl : (l.drop (n + 1)).length = l.toArray.size - (n + 1) := by simp
  have inv0 : HeadInv .any l.toArray n (Array.replicate l.toArray.size false) :=
    ⟨by simp, fun j oj _ hl => (by rw [getD_replicate_false] at hl; cases hl), fun t _ ht => getD_in (by simpa using ht) (getD_replicate_false _ _)⟩
  have H := head_lex (md := .any) (g := l.toArray.size - (n + 1)) hsel hs hc hn (l.take n) 0 _ a (fun j hj => by
    have hj' : j < n := by rw [htl] at hj; exact hj
    simp [hj']) (by simpa using htl) inv0 (by rw [htl]; exact hlex)
    (h (fun e a w => e = .normal ∧ wpStill P l.toArray w (fun a' => Q .normal a' w) (l.drop (n + 1)) a) (fun _ _ h => ⟨rfl, h⟩))
  refine wp_region_any hm ?_
  have := wpAny_of_head (Q' := Q) (g := l.toArray.size - (n + 1) + 1) (fun listed a' hL => ?_) _ _ _ H
  · rw [htl, show n + (l.toArray.size - (n + 1) + 1) = l.toArray.size by omega] at this
    exact this
  · obtain ⟨⟨hr, hf⟩, hq⟩ := hL
    refine ⟨fun h0 => (by rw [hr] at h0; cases h0), fun i hi => ?_⟩
    rw [hr] at hi
    obtain rfl : i = n := by simpa using hi
    have hon : l.toArray[i]? = some l[i] := by simp [hn']
    rw [List.drop_eq_getElem_cons hn'] at hq
    simp only [List.take_succ_cons, List.take_zero] at hq
    have go : ∀ a w, wpStill P l.toArray w (fun a' => Q .normal a' w) (l.drop (i + 1)) a → wpAny P .any l.toArray Q (l.toArray.size - (i + 1)) (listed.setIfInBounds i true) a w := fun a w h => by
      have := wpAnyS_lex (md := .any) hsel (l.drop (i + 1)) (i + 1) (listed.setIfInBounds i true) a (fun j => by simp [List.getElem?_drop]) (by rw [hdl]; exact hf) h
      rw [hdl] at this
      exact wpAny_of_still (fun _ h => h) _ _ _ this
    unfold wpOp
    simp only [hon]
    simp only [wpList] at hq
    split
    · rename_i hw
      simp only [hw, if_true] at hq
      rcases hq with hq | ⟨_, a1, w1, h1, _⟩
      · exact Or.inl (wp_other (fun a w h => go a w h.2) (fun e a w he h => absurd h.1 he) hq)
      · cases h1
    · rename_i hw
      simp only [hw] at hq
      exact go _ _ hq.2
end
end Go.Proofs.YtglgmkikegbchaaGreat
