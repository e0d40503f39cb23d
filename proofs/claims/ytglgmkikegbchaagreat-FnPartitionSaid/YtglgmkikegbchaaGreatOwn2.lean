/- A list of elements under construction: a row of the call's own. -/
import Derived.Test.YtglgmkikegbchaaGreatBase
import Derived.Laws.AppendOwn
import Derived.OwnWalk
namespace Go.Proofs.YtglgmkikegbchaaGreat
open Go.RowKit Go.Sort

theorem cells2_append : ∀ (l m : List It), cells2 (l ++ m) = cells2 l ++ cells2 m
  | [], m => rfl
  | x :: r, m => by simp [cells2, cells2_append r m]

/-- What an owned row holds, as a slice of elements. -/
theorem own_holds {w : World} {base : Nat} {v : Value} {l : List It} (h : w.ownsRow base 49 2 v l.length (cells2 l)) :
    ∃ a cap, v = .slice a l.length cap ∧ Rd2 w a l.toArray ∧ (v = .slice none 0 0 ∨ ∃ g, a = some ⟨g, 0, none⟩ ∧ base ≤ g ∧ g < w.heap.size ∧ l.length ≤ cap ∧ Holds2 w g 0 l.toArray) := by
  obtain ⟨hl, ⟨rfl, h0⟩ | ⟨g, cap, cur, rfl, hb, hg, hnc, _, hcs, ht⟩⟩ := h
  · refine ⟨none, 0, by rw [h0], fun hp => ?_, Or.inl rfl⟩
    simp at hp
    omega
  · have hgl : g < w.heap.size := by
      rcases Nat.lt_or_ge g w.heap.size with h | h
      · exact h
      · rw [Array.getElem?_eq_none h] at hg; cases hg
    have hH : Holds2 w g 0 l.toArray := fun i hi => by
      have hi' : i < l.length := by simpa using hi
      have c : ∀ k u, k < l.length * 2 → (cells2 l)[k]? = some u → w.cell? ⟨g, 0 + k, none⟩ = some u := fun k u hk hu => by
        simp only [World.cell?, hg, Nat.zero_add]
        rw [← ht, List.getElem?_take_of_lt hk] at hu
        simpa using hu
      have f : ∀ k, w.frozen? ⟨g, k, none⟩ = false := fun k => by simp [World.frozen?, hg]
      exact ⟨by have := c (i * 2) _ (by omega) (cells2_fst l i hi'); simpa using this, by have := c (i * 2 + 1) _ (by omega) (cells2_snd l i hi'); simpa [Nat.add_assoc] using this, f _, f _⟩
    exact ⟨_, cap, rfl, fun _ => ⟨g, 0, rfl, hgl, fun i hi => ⟨(hH i hi).1, (hH i hi).2.1⟩⟩, Or.inr ⟨g, rfl, hb, hgl, hnc, hH⟩⟩

theorem own_below {w w' : World} {base : Nat} {e : TypeId} {size n : Nat} {v : Value} {xs : List Value} (h : w.ownsRow base e size v n xs) (hb : Below w.heap.size w w') : w'.ownsRow base e size v n xs := by
  obtain ⟨hl, h | ⟨g, cap, cur, e1, e2, hg, r⟩⟩ := h
  · exact ⟨hl, Or.inl h⟩
  · have hgl : g < w.heap.size := by
      rcases Nat.lt_or_ge g w.heap.size with h | h
      · exact h
      · rw [Array.getElem?_eq_none h] at hg; cases hg
    exact ⟨hl, Or.inr ⟨g, cap, cur, e1, e2, (hb.block g hgl).trans hg, r⟩⟩

theorem own_grown {w0 w w' : World} {base : Nat} {e : TypeId} {size n : Nat} {v : Value} {xs : List Value} (h : w.ownsRow base e size v n xs) (hb : Below w0.heap.size w0 w) (hB : w0.heap.size ≤ base) (hg : w.grownBy w' v.ownBlock) : Below w0.heap.size w0 w' := by
  refine hb.grown hg hb.size (fun k ek => ?_)
  obtain ⟨_, ⟨rfl, _⟩ | ⟨g, cap, cur, rfl, e2, _⟩⟩ := h
  · cases ek
  · cases ek; exact Nat.le_trans hB e2
end Go.Proofs.YtglgmkikegbchaaGreat
