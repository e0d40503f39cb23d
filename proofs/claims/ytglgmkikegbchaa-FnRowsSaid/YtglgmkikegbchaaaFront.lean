/- Front and Next, along a row. -/
import Derived.Test.YtglgmkikegbchaaaKinds
namespace Go.Proofs.Ytglgmkikegbchaa
open Go.RowKit

/-- The pointer to the k-th element of a row; none behind the last. -/
def ptrAt (E : Int → Nat) (r : List Int) (k : Nat) : Value := match r[k]? with | some j => vP (E j) | none => vNil
theorem ptrAt_some {E : Int → Nat} {r : List Int} {k : Nat} {j : Int} (h : r[k]? = some j) : ptrAt E r k = vP (E j) := by simp [ptrAt, h]
theorem ptrAt_none {E : Int → Nat} {r : List Int} {k : Nat} (h : r[k]? = none) : ptrAt E r k = vNil := by simp [ptrAt, h]
section
variable {n0 : Nat} {w : World} {L : Nat} {E : Int → Nat} {m f : Int} {r : List Int} {j : Int} {k : Nat}
theorem front_row (h : Lst vI LT n0 w L E m f r) : Calls Try.prog 72 #[vP L] w fun ev w' => ev = .returned (ptrAt E r 0) ∧ w' = w := by
  obtain ⟨N, P, hd, hcs⟩ := h.ring
  have hL := (hcs L List.mem_cons_self).1
  have hn := h.len
  cases r with
  | nil => exact front_nil L w hn
  | cons j r =>
    have hx : N L = E j := hd.1
    rw [hx] at hL
    rw [ptrAt_some (j := j) rfl]
    exact front_cons L (E j) _ w hn (by simp; omega) hL
theorem next_row (h : Lst vI LT n0 w L E m f r) (hk : r[k]? = some j) : Calls Try.prog 73 #[vP (E j)] w fun ev w' => ev = .returned (ptrAt E r (k + 1)) ∧ w' = w := by
  have hlt : k < r.length := (List.getElem?_eq_some_iff.1 hk).1
  have hr : r = r.take k ++ j :: r.drop (k + 1) := by
    have e1 := (List.take_append_drop k r).symm
    rw [List.drop_eq_getElem_cons hlt] at e1
    have e2 : r[k] = j := (List.getElem?_eq_some_iff.1 hk).2
    rw [e2] at e1
    exact e1
  have hj := h.mem j (by rw [hr]; simp)
  have hj0 := h.inR (j := j) (by rw [hr]; simp)
  have h2 := h.lst j hj.1 hj.2
  rw [if_pos (by rw [hr]; simp)] at h2
  have h' := h
  rw [hr] at h'
  obtain ⟨x, y, hx, _, _, hxe⟩ := h'.elem
  cases hc : r[k + 1]? with
  | none =>
    have hd : r.drop (k + 1) = [] := List.drop_eq_nil_of_le (List.getElem?_eq_none_iff.1 hc)
    rw [hd] at hxe
    have hxL : x = L := hxe
    rw [hxL] at hx
    rw [ptrAt_none hc]
    exact next_end L (E j) w h2 hx
  | some i =>
    have hlt2 := (List.getElem?_eq_some_iff.1 hc).1
    have hd : r.drop (k + 1) = i :: r.drop (k + 2) := by
      rw [List.drop_eq_getElem_cons hlt2]
      rw [(List.getElem?_eq_some_iff.1 hc).2]
    rw [hd] at hxe
    have hxE : x = E i := hxe
    rw [hxE] at hx
    rw [ptrAt_some hc]
    have hi := h.inR (j := i) (List.mem_of_getElem? hc)
    exact next_on L (E j) (E i) w h2 hx (neE_other (h.hE i hi.1 hi.2) h.hL (h.neL i hi.1 hi.2))
end
end Go.Proofs.Ytglgmkikegbchaa
