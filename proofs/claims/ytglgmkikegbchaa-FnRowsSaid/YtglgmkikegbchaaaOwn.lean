/- Slices of the call's own, told apart by the types of their rows; rows that are read (no program in sight). -/
import Derived.Test.YtglgmkikegbchaaaLst
import Derived.Laws.AppendOwn
namespace Go.Proofs.Ytglgmkikegbchaa
open Go.RowKit

section
variable {S : TypeId → Prop} {n1 base size n : Nat} {e : TypeId} {v : Value} {xs : List Value} {w w' : World}
theorem own_fr (h : w.ownsRow base e size v n xs) (hf : Fr S n1 w w') (hS : ¬ S e) : w'.ownsRow base e size v n xs := by
  refine ⟨h.1, ?_⟩
  rcases h.2 with hn | ⟨g, cap, cur, rfl, hb, hgg, rest⟩
  · exact .inl hn
  · refine .inr ⟨g, cap, cur, rfl, hb, ?_, rest⟩
    rw [hf.block g (Array.getElem?_eq_some_iff.1 hgg).1 (Or.inr (fun c t fr e' => by rw [hgg] at e'; cases e'; exact hS))]
    exact hgg
theorem own_below (h : w.ownsRow base e size v n xs) (hb : Below w.heap.size w w') : w'.ownsRow base e size v n xs := by
  refine ⟨h.1, ?_⟩
  rcases h.2 with hn | ⟨g, cap, cur, rfl, h0, hgg, rest⟩
  · exact .inl hn
  · refine .inr ⟨g, cap, cur, rfl, h0, ?_, rest⟩
    rw [hb.block g (Array.getElem?_eq_some_iff.1 hgg).1]
    exact hgg
theorem fr_own (h : w.ownsRow base e size v n xs) (hg : w.grownBy w' v.ownBlock) : Fr (· = e) base w w' := by
  refine ⟨hg.os, hg.tape, hg.output, hg.size, fun k hk ht => hg.block k hk (fun hk' => ?_)⟩
  rcases h.2 with ⟨rfl, _⟩ | ⟨g, cap, cur, rfl, hb, hgg, _⟩
  · simp [Value.ownBlock] at hk'
  · simp only [Value.ownBlock, Option.some.injEq] at hk'
    subst hk'
    rcases ht with ht | ht
    · omega
    · exact ht _ _ _ hgg rfl
theorem own_same {xs' : List Value} {base' : Nat} (h : w.ownsRow base e size v n xs) (h' : w.ownsRow base' e size v n xs') : xs = xs' := by
  rcases h.2 with ⟨rfl, h0⟩ | ⟨g, cap, cur, rfl, hb, hgg, _, _, _, htk⟩
  · have h1 := h.1
    have h2 := h'.1
    rw [h0, Nat.zero_mul] at h1 h2
    rw [List.eq_nil_of_length_eq_zero h1, List.eq_nil_of_length_eq_zero h2]
  · rcases h'.2 with ⟨h1, _⟩ | ⟨g', cap', cur', h1, hb', hgg', _, _, _, htk'⟩
    · cases h1
    · simp only [Value.slice.injEq, Option.some.injEq, Addr.mk.injEq, true_and, and_true] at h1
      obtain ⟨rfl, _⟩ := h1
      rw [hgg] at hgg'
      cases hgg'
      rw [← htk, ← htk']
theorem below_own (h : w.ownsRow w.heap.size e size v n xs) : v.ownBlock = none := by
  rcases h.2 with ⟨rfl, _⟩ | ⟨g, cap, cur, rfl, hb, hgg, _⟩
  · rfl
  · have := (Array.getElem?_eq_some_iff.1 hgg).1; omega
theorem fr_below (h : Below w.heap.size w w') : Fr S n1 w w' := ⟨h.os, h.tape, h.output, h.size, fun k hk _ => h.block k hk⟩

/-- A slice of numbers that is read: its row is of the type e. -/
def RowI (e : TypeId) (w : World) (v : Value) (r : List Int) : Prop :=
  ∃ a c, v = .slice a r.length c ∧ (a = none → c = 0) ∧ (0 < r.length → ∃ b off cs, a = some ⟨b, off, none⟩ ∧ w.heap[b]? = some (.cells cs e (0, 0)) ∧ ∀ j x, r[j]? = some x → cs[off + j]? = some (.int .i64 x))
theorem RowI.cell {r : List Int} {a : Option Addr} {c : Nat} (h : RowI e w (.slice a r.length c) r) (h0 : 0 < r.length) : ∃ b off, a = some ⟨b, off, none⟩ ∧ b < w.heap.size ∧ ∀ j x, r[j]? = some x → w.cell? ⟨b, off + j, none⟩ = some (.int .i64 x) := by
  obtain ⟨a', c', e', _, h⟩ := h
  simp only [Value.slice.injEq, true_and] at e'
  obtain ⟨rfl, rfl⟩ := e'
  obtain ⟨b, off, cs, rfl, hg, hc⟩ := h h0
  exact ⟨b, off, rfl, (Array.getElem?_eq_some_iff.1 hg).1, fun j x hj => (cell_of_row w b (off + j) _ _ _ hg).trans (hc j x hj)⟩
theorem RowI.form {r : List Int} (h : RowI e w v r) : ∃ a c, v = .slice a r.length c := by
  obtain ⟨a, c, e', _⟩ := h
  exact ⟨a, c, e'⟩
theorem RowI.bare {r : List Int} {n c : Nat} (h : RowI e w (.slice none n c) r) : n = 0 ∧ c = 0 ∧ r = [] := by
  obtain ⟨a', c', e', h0, h⟩ := h
  simp only [Value.slice.injEq] at e'
  obtain ⟨rfl, rfl, rfl⟩ := e'
  have hr : r = [] := by
    by_cases h1 : 0 < r.length
    · obtain ⟨b, off, cs, h2, _⟩ := h h1
      cases h2
    · exact List.eq_nil_of_length_eq_zero (by omega)
  exact ⟨by rw [hr]; rfl, h0 rfl, hr⟩
theorem RowI.keep {r : List Int} (h : RowI e w v r) (hk : ∀ (b : Nat) (c : Array Value), w.heap[b]? = some (Obj.cells c e (0, 0)) → w'.heap[b]? = w.heap[b]?) : RowI e w' v r := by
  obtain ⟨a, c, e', hz, h⟩ := h
  refine ⟨a, c, e', hz, fun h0 => ?_⟩
  obtain ⟨b, off, cs, e1, hg, hc⟩ := h h0
  exact ⟨b, off, cs, e1, (hk b cs hg).trans hg, hc⟩
theorem RowI.fr {r : List Int} (h : RowI e w v r) (hf : Fr S n1 w w') (hS : ¬ S e) : RowI e w' v r :=
  h.keep (fun b _ hg => hf.block b (Array.getElem?_eq_some_iff.1 hg).1 (Or.inr (fun c t fr e' => by rw [hg] at e'; cases e'; exact hS)))
theorem RowI.below {r : List Int} (h : RowI e w v r) (hb : Below w.heap.size w w') : RowI e w' v r :=
  h.keep (fun b _ hg => hb.block b (Array.getElem?_eq_some_iff.1 hg).1)
theorem rowI_nil (e : TypeId) (w : World) : RowI e w (.slice none 0 0) [] := ⟨none, 0, rfl, fun _ => rfl, fun h => by simp at h⟩
theorem rowI_own {r : List Int} (h : w.ownsRow base e 1 v n (r.map (Value.int .i64))) : RowI e w v r ∧ n = r.length := by
  have hl := h.1
  simp only [List.length_map, Nat.mul_one] at hl
  subst hl
  refine ⟨?_, rfl⟩
  rcases h.2 with ⟨rfl, h0⟩ | ⟨g, cap, cur, rfl, hb, hgg, hn, _, _, htk⟩
  · exact ⟨none, 0, by rw [h0], fun _ => rfl, fun h => by omega⟩
  · refine ⟨some ⟨g, 0, none⟩, cap, rfl, (fun h => by cases h), fun h0 => ⟨g, 0, cur, rfl, hgg, fun j x hj => ?_⟩⟩
    have e1 : (r.map (Value.int .i64))[j]? = some (.int .i64 x) := by rw [List.getElem?_map, hj]; rfl
    rw [← htk, List.getElem?_take] at e1
    rw [Nat.zero_add]
    split at e1
    · simpa using e1
    · cases e1

/-- A box: a block of one cell. -/
def Box (t : TypeId) (n0 : Nat) (w : World) (b : Nat) (v : Value) : Prop := n0 ≤ b ∧ w.heap[b]? = some (.cells #[v] t (0, 0))
variable {t : TypeId} {n0 b : Nat}
theorem Box.lt (h : Box t n0 w b v) : b < w.heap.size := (Array.getElem?_eq_some_iff.1 h.2).1
theorem Box.cell (h : Box t n0 w b v) : w.cell? ⟨b, 0, none⟩ = some v := cell_of_row w b 0 _ _ _ h.2
theorem Box.frozen (h : Box t n0 w b v) (i : Nat) : w.frozen? ⟨b, i, none⟩ = false := by simp [World.frozen?, h.2]
theorem Box.fr (h : Box t n0 w b v) (hf : Fr S n1 w w') (hS : ¬ S t) : Box t n0 w' b v :=
  ⟨h.1, (hf.block b h.lt (Or.inr (fun c t' fr e' => by rw [h.2] at e'; cases e'; exact hS))).trans h.2⟩
theorem Box.below (h : Box t n0 w b v) (hb : Below w.heap.size w w') : Box t n0 w' b v := ⟨h.1, (hb.block b h.lt).trans h.2⟩
theorem Box.set (h : Box t n0 w b v) (u : Value) : Box t n0 (w.setCell ⟨b, 0, none⟩ u) b u := ⟨h.1, heap_setCell_same w b 0 _ t u h.2⟩
theorem Box.setFr (h : Box t n0 w b v) (u : Value) : Fr (· = t) n0 w (w.setCell ⟨b, 0, none⟩ u) :=
  (Fr.refl (fun x => x = t) n0 w).set (k := 1) ⟨h.1, _, t, h.2, by simp, rfl⟩ 0 u
theorem box_new (w : World) (v : Value) (t : TypeId) (hn : n0 ≤ w.heap.size) : Box t n0 (w.alloc (.cells #[v] t)) w.heap.size v := ⟨hn, heap_alloc_new w _⟩
end
end Go.Proofs.Ytglgmkikegbchaa
