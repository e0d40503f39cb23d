/- What a stable sort of a part leaves, as the specification says it. -/
import Derived.Test.YtglgmkikegbchaaGreatGzPut
import Derived.Test.YtglgmkikegbchaaGreatGStably
import Derived.Test.YtglgmkikegbchaaGreatGMu
import Derived.Deep.RegionHeld
namespace Go.Proofs.YtglgmkikegbchaaGreat
open Go.RowKit Go.Sort

theorem putL_get (l e : List It) (A k : Nat) (h : A + e.length ≤ l.length) : (putL l A e)[k]? = if A ≤ k ∧ k < A + e.length then e[k - A]? else l[k]? := by
  unfold putL
  have ht : (l.take A).length = A := by simp; omega
  by_cases h1 : k < A
  · rw [if_neg (by omega), List.getElem?_append_left (by omega), List.getElem?_take_of_lt h1]
  · rw [List.getElem?_append_right (by omega), ht]
    by_cases h2 : k < A + e.length
    · rw [if_pos (by omega), List.getElem?_append_left (by omega)]
    · rw [if_neg (by omega), List.getElem?_append_right (by omega), List.getElem?_drop]
      congr 1; omega
theorem seg_extract (d : Array It) (A B : Nat) (hB : B ≤ d.size) : (d.extract A B).toList = seg d A B := extract_seg d A B hB
theorem stab_eq {μ : It → Int} (d d' : Array It) (A B : Nat) (hA : A ≤ B) (hB : B ≤ d.size) (h : StableIn μ A B d d') : d' = (putL d.toList A (stablyP (ltBy μ) (d.extract A B).toList)).toArray := by
  rw [seg_extract d A B hB]
  have hs := stably_of h hA
  have hl : (stablyP (ltBy μ) (seg d A B)).length = B - A := by rw [length_stablyP, seg_length]
  apply Array.ext'
  apply List.ext_getElem?
  intro k
  rw [putL_get _ _ _ _ (by rw [hl, Array.length_toList]; omega), hl]
  by_cases hk : A ≤ k ∧ k < A + (B - A)
  · rw [if_pos hk, ← hs]
    have e1 : (seg d' A B)[k - A]? = some d'[k]! := by
      rw [List.getElem?_eq_getElem (by rw [seg_length]; omega), seg_get]
      congr 2; omega
    rw [e1, Array.getElem?_toList, getElem!_pos d' k (by rw [h.1.1]; omega), Array.getElem?_eq_getElem (by rw [h.1.1]; omega)]
  · rw [if_neg hk]
    have hsz := h.1.1
    have e := h.1.2.1 k (by omega)
    rw [Array.getElem?_toList, Array.getElem?_toList]
    by_cases hkn : k < d.size
    · rw [Array.getElem?_eq_getElem hkn, Array.getElem?_eq_getElem (by omega)]
      rw [getElem!_pos d' k (by omega), getElem!_pos d k hkn] at e
      rw [e]
    · rw [Array.getElem?_eq_none (by omega), Array.getElem?_eq_none (by omega)]
end Go.Proofs.YtglgmkikegbchaaGreat
