/- A queue of numbers: a slice of the call's own that is appended to and resliced ('wait = wait[1:]'): its place in its row is not 0. -/
import Derived.Test.YtglgmkikegbchaaGreatGBS
import Derived.Deep.Onto
import Derived.OwnWalk
namespace Go.Proofs.YtglgmkikegbchaaGreat
open Go.RowKit Go.Sort

/-- A slice of cells in the block g, one of the call's own (a cell an element), wherever in its row. -/
def QAt (w : World) (base g : Nat) (v : Value) (xs : List Value) : Prop :=
  ∃ o cap, v = .slice (some ⟨g, o, none⟩) xs.length cap ∧ base ≤ g ∧ g < w.heap.size ∧ xs.length ≤ cap ∧ (∀ j u, xs[j]? = some u → w.cell? ⟨g, o + j, none⟩ = some u) ∧
    (∀ j, j < cap → (w.cell? ⟨g, o + j, none⟩).isSome = true ∧ w.frozen? ⟨g, o + j, none⟩ = false)

theorem QAt.keep {w w' : World} {base g : Nat} {v : Value} {xs : List Value} (h : QAt w base g v xs) (hb : Below w.heap.size w w') : QAt w' base g v xs := by
  obtain ⟨o, cap, e, h1, h2, h3, h4, h5⟩ := h
  exact ⟨o, cap, e, h1, Nat.lt_of_lt_of_le h2 hb.size, h3, fun j u hu => (hb.cell (by exact h2)).trans (h4 j u hu), fun j hj => by rw [hb.cell (by exact h2), hb.frozen (by exact h2)]; exact h5 j hj⟩
theorem QAt.lt {w : World} {base g : Nat} {v : Value} {xs : List Value} (h : QAt w base g v xs) : base ≤ g ∧ g < w.heap.size := by
  obtain ⟨o, cap, e, h1, h2, _⟩ := h
  exact ⟨h1, h2⟩
theorem QAt.bare {w : World} {base g : Nat} {v : Value} (h : QAt w base g v []) : ∃ o cap, v = .slice (some ⟨g, o, none⟩) 0 cap := by
  obtain ⟨o, cap, e, _⟩ := h
  exact ⟨o, cap, e⟩

/-- The first one is taken off. -/
theorem QAt.form {w : World} {base g : Nat} {v : Value} {x : Value} {xs : List Value} (h : QAt w base g v (x :: xs)) :
    ∃ o cap, v = .slice (some ⟨g, o, none⟩) (xs.length + 1) cap ∧ xs.length + 1 ≤ cap ∧ w.cell? ⟨g, o, none⟩ = some x ∧ (cap = 1 → QAt w base g (.slice (some ⟨g, o, none⟩) xs.length (cap - 1)) xs) ∧ (¬ cap = 1 → QAt w base g (.slice (some ⟨g, o + 1, none⟩) xs.length (cap - 1)) xs) := by
  obtain ⟨o, cap, e, h1, h2, h3, h4, h5⟩ := h
  simp only [List.length_cons] at h3
  refine ⟨o, cap, e, h3, by simpa using h4 0 x rfl, fun hc => ?_, fun hc => ?_⟩
  · have h0 : xs = [] := List.eq_nil_of_length_eq_zero (by omega)
    subst h0
    exact ⟨o, cap - 1, rfl, h1, h2, by simp, fun j u hu => by simp at hu, fun j hj => h5 j (by omega)⟩
  · exact ⟨o + 1, cap - 1, rfl, h1, h2, by omega, fun j u hu => by have := h4 (j + 1) u (by simpa using hu); rwa [show o + 1 + j = o + (j + 1) by omega], fun j hj => by have := h5 (j + 1) (by omega); rwa [show o + 1 + j = o + (j + 1) by omega]⟩

theorem qAt_new (w : World) (x : Value) (t : TypeId) (base : Nat) (hb : base ≤ w.heap.size) : QAt (w.alloc (.cells #[x] t)) base w.heap.size (.slice (some ⟨w.heap.size, 0, none⟩) 1 1) [x] := by
  have hn := heap_alloc_new w (.cells #[x] t)
  refine ⟨0, 1, rfl, hb, by simp, Nat.le_refl _, fun j u hu => ?_, fun j hj => ?_⟩
  · cases j with
    | zero => simp at hu; subst hu; exact cell_of_row _ _ 0 _ _ _ hn
    | succ j => simp at hu
  · obtain rfl : j = 0 := by omega
    exact ⟨by rw [cell_of_row _ _ 0 _ _ _ hn]; rfl, frozen_of_row _ _ _ _ _ hn⟩

section
variable {P : Program}

theorem run_append_q (w : World) (t ty e : TypeId) (i : TypeInfo) (z : Value) (ht : P.underlying t = some (.slice e)) (hi : P.info? e = some i) (hz : i.zero = some z) (hsize : i.size = 1) (hby : i.bytes = 8) (hzs : z.cells.size = 1)
    (base g : Nat) (v : Value) (xs : List Value) (hq : QAt w base g v xs) (ad : Addr) (c : Nat) (u : Value) (hu : w.cell? ad = some u) (h1 : u.oneCell' = true) (hlen : xs.length ≤ 1000000) (hbase : base ≤ w.heap.size) :
    ∃ g' v' w', (Builtin.append_ #[t, t] ty #[v, .slice (some ad) 1 c]).run P w = .ok v' w' ∧ QAt w' base g' v' (xs ++ [u]) ∧ (g' = g ∨ g' = w.heap.size) ∧ w.grownBy w' (some g) := by
  obtain ⟨o, cap, rfl, b1, b2, b3, b4, b5⟩ := hq
  have hnews : ∀ j x, [u][j]? = some x → w.cell? (ad.add j) = some x := fun j x hx => by
    cases j with
    | zero => simp at hx; subst hx; simpa [Addr.add] using hu
    | succ j => simp at hx
  have hone : ∀ x ∈ [u], x.oneCell' = true := fun x hx => by simp at hx; subst hx; exact h1
  by_cases hr : xs.length + 1 ≤ cap
  · have hrun := run_append_room_cells (P := P) w t ty e i ht hi g o xs.length cap ad 1 c [u] (by simp [hsize]) hnews hone hr
      (fun j hj => by
        obtain rfl : j = 0 := by simpa using hj
        rw [hsize, Nat.mul_one, Nat.add_zero]; exact (b5 xs.length (by omega)).1)
      (fun j hj => by
        obtain rfl : j = 0 := by simpa using hj
        rw [hsize, Nat.mul_one, Nat.add_zero]; exact (b5 xs.length (by omega)).2)
    rw [hsize, Nat.mul_one] at hrun
    have hsm := (b5 xs.length (by omega)).1
    refine ⟨g, _, _, hrun, ⟨o, cap, by simp, b1, by simp [World.setCells, b2], by simpa using hr, fun j x hx => ?_, fun j hj => ?_⟩, Or.inl rfl, Go.Lib.grownBy_setB (World.grownBy.refl _ _) _ _⟩
    · show (w.setCell ⟨g, o + xs.length, none⟩ u).cell? _ = _
      rw [cell_set hsm]
      by_cases hj : j < xs.length
      · rw [if_neg (by omega)]
        rw [List.getElem?_append_left hj] at hx
        exact b4 j x hx
      · rw [List.getElem?_append_right (by omega)] at hx
        have h0 : j = xs.length := by
          rcases Nat.lt_or_ge (j - xs.length) 1 with h' | h'
          · omega
          · rw [List.getElem?_eq_none (by simpa using h')] at hx; cases hx
        subst h0
        rw [if_pos rfl]
        simpa using hx
    · show ((w.setCell ⟨g, o + xs.length, none⟩ u).cell? _).isSome = true ∧ (w.setCell ⟨g, o + xs.length, none⟩ u).frozen? _ = false
      rw [World.frozen?_setCell]
      exact ⟨isSome_set hsm (b5 j hj).1 _, (b5 j hj).2⟩
  · have hfit := growslice_fits (need := xs.length + 1) (old := cap) (bytes := i.bytes) (by omega) (by rw [hby]; omega)
    have hrun := run_append_grow (P := P) w t ty e i z ht hi hz ⟨g, o, none⟩ xs.length cap xs (by simp [hsize]) (fun j x hx => by rw [Addr.add_lit]; exact b4 j x hx) ad 1 c [u] (by simp [hsize]) hnews (by omega) (by omega) hfit
    refine ⟨w.heap.size, _, _, hrun, ⟨0, grownCap w (xs.length + 1) cap e, by simp, hbase, by simp, by simpa using grownCap_ge w (xs.length + 1) cap e, fun j x hx => ?_, fun j hj => ?_⟩, Or.inr rfl, ⟨rfl, rfl, rfl, by simp, fun k hk _ => heap_alloc_old w.drew _ hk⟩⟩
    · have hn := heap_alloc_new w.drew (.cells (xs.toArray ++ [u].toArray ++ Builtin.zeroCells z.cells (grownCap w (xs.length + 1) cap e - (xs.length + 1))) e)
      have hj : j < (xs ++ [u]).length := (List.getElem?_eq_some_iff.1 hx).1
      rw [Nat.zero_add]
      refine (cell_of_row _ _ _ _ _ _ hn).trans ?_
      rw [← Array.getElem?_toList, Array.toList_append, Array.toList_append, List.getElem?_append_left (by simpa using hj)]
      simpa using hx
    · have hn := heap_alloc_new w.drew (.cells (xs.toArray ++ [u].toArray ++ Builtin.zeroCells z.cells (grownCap w (xs.length + 1) cap e - (xs.length + 1))) e)
      have hge := grownCap_ge w (xs.length + 1) cap e
      rw [Nat.zero_add]
      refine ⟨?_, frozen_of_row _ _ _ _ _ hn⟩
      have hc := cell_of_row _ _ j _ _ _ hn
      have hlt : j < (xs.toArray ++ [u].toArray ++ Builtin.zeroCells z.cells (grownCap w (xs.length + 1) cap e - (xs.length + 1))).size := by
        simp only [Array.size_append, List.size_toArray, size_zeroCells, hzs, List.length_cons, List.length_nil]
        omega
      rw [Array.getElem?_eq_getElem hlt] at hc
      have hc' : (w.drew.alloc (.cells (xs.toArray ++ [u].toArray ++ Builtin.zeroCells z.cells (grownCap w (xs.length + 1) cap e - (xs.length + 1))) e)).cell? ⟨w.heap.size, j, none⟩ = some _ := hc
      rw [hc']
      rfl

/-- For the walk. -/
theorem wpList_append_q (w : World) {ops : Array Oper} {rest : List Oper} {o : Oper} {a : Act} {Q : Exit → Act → World → Prop} (hgd : o.guard = none) (s x : Operand) (t : TypeId)
    (ho : o.op = .call { callee := .builtin .append, args := #[s, x], argTypes := #[t, t] }) (e : TypeId) (i : TypeInfo) (z : Value) (ht : P.underlying t = some (.slice e)) (hi : P.info? e = some i) (hz : i.zero = some z) (hsize : i.size = 1) (hby : i.bytes = 8) (hzs : z.cells.size = 1)
    (base g : Nat) (v : Value) (xs : List Value) (hs : a.eval s = v) (hq : QAt w base g v xs) (ad : Addr) (c : Nat) (u : Value) (hx : a.eval x = .slice (some ad) 1 c) (hu : w.cell? ad = some u) (h1 : u.oneCell' = true) (hlen : xs.length ≤ 1000000) (hbase : base ≤ w.heap.size)
    (hK : ∀ g' v' w', Aside (QAt w' base g' v' (xs ++ [u]) ∧ (g' = g ∨ g' = w.heap.size) ∧ w.grownBy w' (some g)) → wpList P ops Q rest (a.put o.dst v') w') : wpList P ops Q (o :: rest) a w := by
  refine wpList_plain hgd fun K hK' => ?_
  obtain ⟨g', v', w', hrun, r1, r2, r3⟩ := run_append_q (P := P) w t o.type e i z ht hi hz hsize hby hzs base g v xs hq ad c u hu h1 hlen hbase
  unfold Oper.wp
  simp [execOp, ho, resolve, invoke, builtin, hs, hx, hrun, Result.andThen]
  exact hK' _ _ (hK g' v' w' ⟨r1, r2, r3⟩)
end
end Go.Proofs.YtglgmkikegbchaaGreat
