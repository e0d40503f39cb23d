/- impl.Rows: what holds between two steps (no walk). -/
import Derived.Test.YtglgmkikegbchaaaKinds
namespace Go.Proofs.Ytglgmkikegbchaa
open Go.RowKit

/-- The pointers to the elements made so far. -/
def elsL (E : Int → Nat) (M : Nat) : List Value := (List.range M).map fun j : Nat => vP (E (j : Int))
theorem elsL_length (E : Int → Nat) (M : Nat) : (elsL E M).length = M := by simp [elsL]
theorem elsL_get (E : Int → Nat) {M j : Nat} (h : j < M) : (elsL E M)[j]? = some (vP (E (j : Int))) := by simp [elsL, h]
theorem elsL_succ (E E' : Int → Nat) (M : Nat) (e : Nat) (h : ∀ j : Int, j ≠ M → E' j = E j) (he : E' M = e) : elsL E' (M + 1) = elsL E M ++ [vP e] := by
  rw [elsL, List.range_succ, List.map_append, List.map_cons, List.map_nil, he, elsL]
  congr 1
  refine List.map_congr_left (fun j hj => ?_)
  rw [h]
  have := List.mem_range.1 hj
  omega

def RowsI (w : World) (vs : List Value) (rs : List (List Int)) : Prop := vs.length = rs.length ∧ ∀ (j : Nat) v r, vs[j]? = some v → rs[j]? = some r → RowI 3 w v r

/-- All but the list. -/
structure RP (d : Array Stp) (w0 : World) (bm bo : Nat) (E : Int → Nat) (M : Nat) (vm : Value) (vs : List Value) (i : Nat) (v2 : Value) (w : World) : Prop where
  made : w.ownsRow w0.heap.size 100 1 vm M (elsL E M)
  boxM : Box 99 w0.heap.size w bm vm
  boxO : Box 4 w0.heap.size w bo (.bool false)
  out : w.ownsRow w0.heap.size 59 1 v2 i vs
  rows : RowsI w vs (rowsP d i)
  bel : Below w0.heap.size w0 w

section
variable {d : Array Stp} {w0 : World} {bm bo : Nat} {E E' : Int → Nat} {M : Nat} {vm v2 : Value} {vs : List Value} {i : Nat} {w w' : World} {S : TypeId → Prop} {n1 : Nat}
theorem Below.fr (b : Below w0.heap.size w0 w) (h : Fr S w0.heap.size w w') : Below w0.heap.size w0 w' :=
  b.trans ⟨h.os, h.tape, h.output, h.size, fun k hk => h.block k (Nat.lt_of_lt_of_le hk b.size) (Or.inl hk)⟩
theorem RowsI.fr {rs : List (List Int)} (h : RowsI w vs rs) (hf : Fr S n1 w w') (hS : ¬ S 3) : RowsI w' vs rs := ⟨h.1, fun j v r h1 h2 => (h.2 j v r h1 h2).fr hf hS⟩
theorem RowsI.below {rs : List (List Int)} (h : RowsI w vs rs) (hb : Below w.heap.size w w') : RowsI w' vs rs := ⟨h.1, fun j v r h1 h2 => (h.2 j v r h1 h2).below hb⟩
theorem RP.below (h : RP d w0 bm bo E M vm vs i v2 w) (hb : Below w.heap.size w w') : RP d w0 bm bo E M vm vs i v2 w' :=
  ⟨own_below h.made hb, h.boxM.below hb, h.boxO.below hb, own_below h.out hb, h.rows.below hb, h.bel.trans (hb.mono h.bel.size)⟩
/-- A step of the list. -/
theorem RP.list (h : RP d w0 bm bo E M vm vs i v2 w) (hf : Fr LT w0.heap.size w w') : RP d w0 bm bo E M vm vs i v2 w' :=
  ⟨own_fr h.made hf (by unfold LT; decide), h.boxM.fr hf (by unfold LT; decide), h.boxO.fr hf (by unfold LT; decide), own_fr h.out hf (by unfold LT; decide), h.rows.fr hf (by unfold LT; decide), Below.fr h.bel hf⟩

/-- The list's state behind the switch: an element has come, or none. -/
def SW (d : Array Stp) (w0 : World) (L : Nat) (E : Int → Nat) (M : Nat) (i : Nat) (v9 : Value) (w : World) : Prop :=
  ((rowP (stP d i).r (stP d i).m d[i]!).2 = true ∧ ∃ e E', v9 = vP e ∧ Lst vI LT w0.heap.size w L E' ((stP d i).m + 1) (stP d (i + 1)).f (rowP (stP d i).r (stP d i).m d[i]!).1 ∧ (∀ j, j ≠ (M : Int) → E' j = E j) ∧ E' (M : Int) = e) ∨
  ((rowP (stP d i).r (stP d i).m d[i]!).2 = false ∧ v9 = vNil ∧ Lst vI LT w0.heap.size w L E (stP d i).m (stP d (i + 1)).f (rowP (stP d i).r (stP d i).m d[i]!).1)

/-- Between two steps. -/
def RI (d : Array Stp) (w0 : World) (L bm bo : Nat) (x : RSt) (i : Nat) (v2 : Value) (w : World) : Prop :=
  ∃ (E : Int → Nat) (M : Nat) (vm : Value) (vs : List Value), (M : Int) = x.m ∧ Lst vI LT w0.heap.size w L E x.m x.f x.r ∧ RP d w0 bm bo E M vm vs i v2 w
theorem RI.below {L : Nat} {x : RSt} (h : RI d w0 L bm bo x i v2 w) (hb : Below w.heap.size w w') : RI d w0 L bm bo x i v2 w' := by
  obtain ⟨E, M, vm, vs, h1, h2, h3⟩ := h
  exact ⟨E, M, vm, vs, h1, h2.fr (fr_below (S := fun _ => False) (n1 := 0) hb) (fun _ _ h => h), h3.below hb⟩

/-- The element that came is kept. -/
theorem RP.push (h : RP d w0 bm bo E M vm vs i v2 w) {e : Nat} (hE : ∀ j, j ≠ (M : Int) → E' j = E j) (he : E' (M : Int) = e) {vm' : Value} (ho : w'.ownsRow w0.heap.size 100 1 vm' (M + 1) (elsL E M ++ [vP e])) (hg : w.grownBy w' vm.ownBlock) :
    RP d w0 bm bo E' (M + 1) vm' vs i v2 (w'.setCell ⟨bm, 0, none⟩ vm') ∧ ∀ {L : Nat} {m f : Int} {r : List Int}, Lst vI LT w0.heap.size w L E' m f r → Lst vI LT w0.heap.size (w'.setCell ⟨bm, 0, none⟩ vm') L E' m f r := by
  have f1 : Fr (· = 100) w0.heap.size w w' := fr_own h.made hg
  have b1 := h.boxM.fr f1 (by decide)
  have f2 := b1.setFr vm'
  refine ⟨⟨by rw [elsL_succ E E' M e hE he]; exact own_fr ho f2 (by decide), b1.set vm', (h.boxO.fr f1 (by decide)).fr f2 (by decide), own_fr (own_fr h.out f1 (by decide)) f2 (by decide), (h.rows.fr f1 (by decide)).fr f2 (by decide), Below.fr (Below.fr h.bel f1) f2⟩, fun hl => (hl.fr f1 (by unfold LT; rintro t (rfl | rfl) <;> decide)).fr f2 (by unfold LT; rintro t (rfl | rfl) <;> decide)⟩

/-- A row is put behind the rows. -/
theorem RI.row {L : Nat} (h : RI d w0 L bm bo (stP d (i + 1)) i v2 w) {v10 v2' : Value} (hr : RowI 3 w v10 (stP d (i + 1)).r) (ho : ∀ vs, w.ownsRow w0.heap.size 59 1 v2 i vs → w'.ownsRow w0.heap.size 59 1 v2' (i + 1) (vs ++ [v10])) (hg : w.grownBy w' v2.ownBlock) :
    RI d w0 L bm bo (stP d (i + 1)) (i + 1) v2' w' := by
  obtain ⟨E, M, vm, vs, h1, h2, h3⟩ := h
  have f1 : Fr (· = 59) w0.heap.size w w' := fr_own h3.out hg
  refine ⟨E, M, vm, vs ++ [v10], h1, h2.fr f1 (by unfold LT; rintro t (rfl | rfl) <;> decide), ⟨own_fr h3.made f1 (by decide), h3.boxM.fr f1 (by decide), h3.boxO.fr f1 (by decide), ho vs h3.out, ⟨by rw [rowsP_succ, List.length_append, List.length_append, h3.rows.1]; rfl, fun j v r hv hr' => ?_⟩, Below.fr h3.bel f1⟩⟩
  rw [rowsP_succ] at hr'
  have hl := h3.rows.1
  by_cases hj : j < vs.length
  · rw [List.getElem?_append_left hj] at hv
    rw [List.getElem?_append_left (by omega)] at hr'
    exact (h3.rows.2 j v r hv hr').fr f1 (by decide)
  · rw [List.getElem?_append_right (by omega)] at hv hr'
    rw [← hl] at hr'
    cases hk : j - vs.length with
    | zero =>
      rw [hk] at hv hr'
      simp only [List.getElem?_cons_zero, Option.some.injEq] at hv hr'
      subst hv
      subst hr'
      exact hr.fr f1 (by decide)
    | succ k => rw [hk] at hv; simp at hv
end
end Go.Proofs.Ytglgmkikegbchaa
