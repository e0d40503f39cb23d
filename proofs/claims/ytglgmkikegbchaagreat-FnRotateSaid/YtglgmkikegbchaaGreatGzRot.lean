/- What a rotation leaves, as the specification says it. -/
import Derived.Test.YtglgmkikegbchaaGreatGzStab
import Derived.Test.YtglgmkikegbchaaGreatGBS
import Derived.Deep.AppendLies
import Derived.Deep.RegionHeldLaw
import Derived.Test.YtglgmkikegbchaaGreatPb
namespace Go.Proofs.YtglgmkikegbchaaGreat
open Go.RowKit Go.Sort

/-- The neighbours, the other way round. -/
def rotL (d : Array It) (x y z : Nat) : List It := (d.extract y z).toList ++ (d.extract x y).toList
theorem length_rotL (d : Array It) (x y z : Nat) (h1 : x < y) (h2 : y < z) (hz : z ≤ d.size) : (rotL d x y z).length = z - y + (y - x) := by
  unfold rotL
  rw [List.length_append, Array.length_toList, Array.length_toList, Array.size_extract, Array.size_extract]
  omega
theorem rot_eq (d d' : Array It) (x y z : Nat) (h1 : x < y) (h2 : y < z) (hz : z ≤ d.size) (h : Rotated x y z d d') : d' = (putL d.toList x (rotL d x y z)).toArray := by
  have hl := length_rotL d x y z h1 h2 hz
  obtain ⟨hs, hg⟩ := h
  apply Array.ext'
  apply List.ext_getElem?
  intro k
  rw [putL_get _ _ _ _ (by rw [hl, Array.length_toList]; omega), hl]
  by_cases hk : k < d.size
  · have e0 : d'.toList[k]? = some d'[k]! := by
      rw [Array.getElem?_toList, getElem!_pos d' k (by omega), Array.getElem?_eq_getElem (by omega)]
    rw [e0, hg k]
    by_cases c : x ≤ k ∧ k < x + (z - y + (y - x))
    · rw [if_pos c]
      unfold rotL
      by_cases c2 : k < x + (z - y)
      · rw [if_pos (by omega), List.getElem?_append_left (by rw [Array.length_toList, Array.size_extract]; omega), seg_extract d y z hz, List.getElem?_eq_getElem (by rw [seg_length]; omega), seg_get]
        congr 2; omega
      · rw [if_neg (by omega), if_pos (by omega), List.getElem?_append_right (by rw [Array.length_toList, Array.size_extract]; omega), seg_extract d x y (by omega), Array.length_toList, Array.size_extract, List.getElem?_eq_getElem (by rw [seg_length]; omega), seg_get]
        congr 2; omega
    · rw [if_neg c, if_neg (by omega), if_neg (by omega)]
      show some d[k]! = _
      rw [Array.getElem?_toList, getElem!_pos d k hk, Array.getElem?_eq_getElem hk]
  · rw [if_neg (by omega)]
    rw [Array.getElem?_toList, Array.getElem?_toList, Array.getElem?_eq_none (by omega), Array.getElem?_eq_none (by omega)]

/-- A part is appended, at a step of a region that draws its order (guarded or not): what was made holds both. -/
theorem step_rot {w2 w : World} {ops : Array Oper} {o : Oper} {a : Act} {K : Act → World → Prop} {Q : Exit → Act → World → Prop} {E : Prop} (hw : Region.wanted o (yielded ops a.tmps) = true) (s x : Operand)
    (ho : o.op = .call { callee := .builtin .append, args := #[s, x], argTypes := #[22, 22] })
    (v : Value) (n : Nat) (l : List It) (hs : a.eval s = v) (hown : w.ownsRow w2.heap.size 49 2 v n (cells2 l)) (hb : Below w2.heap.size w2 w)
    (blk off m c : Nat) (d' : Array It) (R : Rd2 w2 (some ⟨blk, off, none⟩) d') (hx : a.eval x = .slice (some ⟨blk, off, none⟩) m c) (hd : d'.size = m) (hm : 0 < m) (hnm : n + m ≤ 2000) (l' : List It) (hl' : l' = l ++ d'.toList) (t : Nat) (ht : t = n + m)
    (h : ∀ g cap w', Aside (w'.ownsRow w2.heap.size 49 2 (.slice (some ⟨g, 0, none⟩) t cap) t (cells2 l') ∧ Rd2 w' (some ⟨g, 0, none⟩) l'.toArray ∧ Below w2.heap.size w2 w') → K (a.put o.dst (.slice (some ⟨g, 0, none⟩) t cap)) w') :
    if Region.wanted o (yielded ops a.tmps) = true then Oper.wp Tryz.prog o a w K Q else E := by
  obtain ⟨i0, hi, hz0, hz1, hz2⟩ := info_parts (show (Tryz.prog.info? 49).map (fun i => (i.zero, i.size, i.bytes)) = some (some (.agg #[.int .i64 0, .int .i64 0]), 2, 16) by kernel_rfl)
  subst ht
  have hrd := R.keep hb
  rw [if_pos hw]
  refine wp_append_lies w s x 22 ho w2.heap.size 49 i0 (.agg #[.int .i64 0, .int .i64 0]) 2 16 Tryz.underlying22 hi hz0 hz1 hz2 rfl (by decide) v n (cells2 l) hs hown ⟨blk, off, none⟩ m c (cells2 d'.toList) hx (by rw [cells2_length]; simp [hd]) (fun j u hu => ?_) (cells2_one _) hm (by unfold maxLen; omega) (by omega) hb.size w.heap.size rfl (fun g cap w' h1 h2 h3 h4 => ?_)
  · obtain ⟨i, hi, hu⟩ := cells2_all _ _ _ hu
    have hi' : i < d'.size := by simpa using hi
    obtain ⟨_, _, e', _, hc⟩ := hrd (by omega)
    cases e'
    rcases hu with ⟨rfl, rfl⟩ | ⟨rfl, rfl⟩
    · rw [Addr.add_lit, toList_get!]; exact (hc i hi').1
    · rw [Addr.add_lit, toList_get!, ← Nat.add_assoc]; exact (hc i hi').2
  · have hB := own_grown hown hb (Nat.le_refl _) h2
    rw [← cells2_append, ← hl'] at h1
    have hlen : l'.length = n + m := by
      have := h1.1
      rw [cells2_length] at this
      omega
    have h1' := h1
    rw [← hlen] at h1'
    obtain ⟨ra, rcap, e1, e2, _⟩ := own_holds h1'
    cases e1
    exact h g cap w' ⟨h1, e2, hB⟩
end Go.Proofs.YtglgmkikegbchaaGreat
