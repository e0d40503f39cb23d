/- What a walk of the sorting says of memory: 'the row holds d, and since w0 only the row's block and new blocks have changed'. -/
import Derived.WalkKit
import Derived.WalkSpells
import Derived.WalkLawsBesides
import Derived.Sort.WalkC
import Derived.Sort.WalkB12
import Derived.Sort.Grow
import Derived.Lib.BufferOwn
import Derived.BigRegion
import Derived.BigQuiet
import Derived.Deep.QuietTactic
import Derived.Deep.LoopGhost
import Derived.Shelf.SlSortCmp.QuietGrown
import Derived.Deep.Cut
import Derived.Test.YtglgmkikegbchaaPa
namespace Go.Proofs.Ytglgmkikegbchaa
open Go.RowKit Go.Sort
section
variable {α : Type} [Inhabited α]

/-- A world of the sort's: since w0 only the row's block and new blocks have changed, and the row holds d. -/
structure St1 (enc : α → Value) (w0 : World) (blk off : Nat) (d : Array α) (w : World) : Prop where
  holds : Holds enc w blk off d
  lt : blk < w.heap.size
  grown : w0.grownBy w (some blk)

variable {enc : α → Value} {w0 w : World} {blk off : Nat} {d : Array α}

theorem grownBy_drewN {w w' : World} {row : Option Nat} (h : w.grownBy w' row) (n : Nat) : w.grownBy (w'.drewN n) row := ⟨h.os, h.tape, h.output, h.size, h.block⟩
theorem grownBy_grow {w w' : World} {row : Option Nat} (h : w.grownBy w' row) (os : Array Obj) : w.grownBy (grow w' os) row :=
  ⟨h.os, h.tape, h.output, Nat.le_trans h.size (by simp [grow]), fun k hk hr => by
    rw [heap_grow_old w' os (Nat.lt_of_lt_of_le hk h.size)]; exact h.block k hk hr⟩

theorem St1.drewN (h : St1 enc w0 blk off d w) (n : Nat) : St1 enc w0 blk off d (w.drewN n) := ⟨h.holds, h.lt, grownBy_drewN h.grown n⟩
theorem St1.drew (h : St1 enc w0 blk off d w) : St1 enc w0 blk off d w.drew := ⟨h.holds, h.lt, grownBy_drewN h.grown 1⟩
theorem St1.grow1 (h : St1 enc w0 blk off d w) (n : Nat) (os : Array Obj) : St1 enc w0 blk off d (Go.Sort.grow (w.drewN n) os) :=
  ⟨holds_grow enc _ os blk off d h.lt h.holds, by rw [show (Go.Sort.grow (w.drewN n) os).heap.size = w.heap.size + os.size from by simp [Go.Sort.grow]]; have := h.lt; omega, grownBy_grow (grownBy_drewN h.grown n) os⟩
theorem St1.cell (h : St1 enc w0 blk off d w) {i : Nat} (hi : i < d.size) : w.cell? ⟨blk, off + i, none⟩ = some (enc d[i]!) := (h.holds i hi).1
theorem St1.frozen (h : St1 enc w0 blk off d w) {i : Nat} (hi : i < d.size) : w.frozen? ⟨blk, off + i, none⟩ = false := (h.holds i hi).2
theorem St1.swap (h : St1 enc w0 blk off d w) {i j : Nat} (hi : i < d.size) (hj : j < d.size) {x y : α} (hx : x = d[i]!) (hy : y = d[j]!) :
    St1 enc w0 blk off (swp d i j) ((w.setCell ⟨blk, off + i, none⟩ (enc y)).setCell ⟨blk, off + j, none⟩ (enc x)) := by
  subst hx hy
  refine ⟨?_, by simpa using h.lt, Go.Lib.grownBy_setB (Go.Lib.grownBy_setB h.grown _ _) _ _⟩
  have e := putRow_swp enc w blk off d i j hi hj
  rw [putRow_self enc w blk off d h.holds] at e
  rw [e]
  exact holds_putRow enc w blk off d _ h.holds (by rw [size_swp])

theorem St1.second (h : St1 enc w0 blk off d w) (i j : Nat) (_hi : i < d.size) (hj : j < d.size) (v : Value) : ∃ u, (w.setCell ⟨blk, off + i, none⟩ v).cell? ⟨blk, off + j, none⟩ = some u := by
  by_cases e : i = j
  · subst e; exact ⟨v, World.cell?_setCell_same _ _ _ (h.cell hj)⟩
  · exact ⟨_, (World.cell?_setCell_other _ _ _ _ (by intro e'; simp only [Addr.mk.injEq] at e'; omega)).trans (h.cell hj)⟩

theorem St1.trans {w1 : World} {d' : Array α} (h : St1 enc w0 blk off d w1) (k : St1 enc w1 blk off d' w) : St1 enc w0 blk off d' w := ⟨k.holds, k.lt, Go.Lib.grownBy_trans h.grown k.grown⟩
theorem St1.self (h : St1 enc w0 blk off d w) : St1 enc w blk off d w := ⟨h.holds, h.lt, World.grownBy.refl _ _⟩
end
section
/-- An element: its key and its tag. -/
abbrev It := Int × Int
abbrev vIt (x : It) : Value := .agg #[.int .i64 x.1, .int .i64 x.2]

/-- The row's cells hold d, two cells an element. -/
def Holds2 (w : World) (blk off : Nat) (d : Array It) : Prop := ∀ i, i < d.size →
  w.cell? ⟨blk, off + i * 2, none⟩ = some (.int .i64 d[i]!.1) ∧ w.cell? ⟨blk, off + i * 2 + 1, none⟩ = some (.int .i64 d[i]!.2) ∧
  w.frozen? ⟨blk, off + i * 2, none⟩ = false ∧ w.frozen? ⟨blk, off + i * 2 + 1, none⟩ = false

structure St2 (w0 : World) (blk off : Nat) (d : Array It) (w : World) : Prop where
  holds : Holds2 w blk off d
  lt : blk < w.heap.size
  grown : w0.grownBy w (some blk)

variable {w0 w : World} {blk off : Nat} {d : Array It}

theorem St2.grow (h : St2 w0 blk off d w) (n : Nat) (os : Array Obj) : St2 w0 blk off d (Go.Sort.grow (w.drewN n) os) := by
  refine ⟨fun i hi => ?_, by rw [show (Go.Sort.grow (w.drewN n) os).heap.size = w.heap.size + os.size from by simp [Go.Sort.grow]]; have := h.lt; omega, grownBy_grow (grownBy_drewN h.grown n) os⟩
  have hl : blk < (w.drewN n).heap.size := h.lt
  rw [cell?_grow _ _ _ hl, cell?_grow _ _ _ hl, frozen?_grow _ _ _ hl, frozen?_grow _ _ _ hl]
  exact h.holds i hi
theorem St2.drewN (h : St2 w0 blk off d w) (n : Nat) : St2 w0 blk off d (w.drewN n) := ⟨h.holds, h.lt, grownBy_drewN h.grown n⟩
theorem St2.cells (h : St2 w0 blk off d w) {i : Nat} (hi : i < d.size) {x : It} (hx : x = d[i]!) (n : Nat) (os : Array Obj) :
    (Go.Sort.grow (w.drewN n) os).cell? ⟨blk, off + i * 2, none⟩ = some (.int .i64 x.1) ∧ (Go.Sort.grow (w.drewN n) os).cell? ⟨blk, off + i * 2 + 1, none⟩ = some (.int .i64 x.2) := by
  subst hx
  exact ⟨((h.grow n os).holds i hi).1, ((h.grow n os).holds i hi).2.1⟩

theorem cell_set {w : World} {b p : Nat} (h : (w.cell? ⟨b, p, none⟩).isSome = true) (v : Value) (q : Nat) :
    (w.setCell ⟨b, p, none⟩ v).cell? ⟨b, q, none⟩ = if q = p then some v else w.cell? ⟨b, q, none⟩ := by
  by_cases e : q = p
  · rw [if_pos e, e]; exact World.cell?_setCell_same' _ _ _ h
  · rw [if_neg e]; exact World.cell?_setCell_other _ _ _ _ (fun h => e (by cases h; rfl))
theorem isSome_set {w : World} {b p q : Nat} (hp : (w.cell? ⟨b, p, none⟩).isSome = true) (hq : (w.cell? ⟨b, q, none⟩).isSome = true) (v : Value) :
    ((w.setCell ⟨b, p, none⟩ v).cell? ⟨b, q, none⟩).isSome = true := by
  rw [cell_set hp]; split
  · rfl
  · exact hq

/-- The four stores of an exchange. -/
theorem St2.swap (h : St2 w0 blk off d w) {i j : Nat} (hi : i < d.size) (hj : j < d.size) {x y : It} (hx : x = d[i]!) (hy : y = d[j]!) :
    St2 w0 blk off (swp d i j) ((((w.setCell ⟨blk, off + i * 2, none⟩ (.int .i64 y.1)).setCell ⟨blk, off + i * 2 + 1, none⟩ (.int .i64 y.2)).setCell ⟨blk, off + j * 2, none⟩ (.int .i64 x.1)).setCell ⟨blk, off + j * 2 + 1, none⟩ (.int .i64 x.2)) := by
  subst hx hy
  refine ⟨fun k hk => ?_, by simpa using h.lt, Go.Lib.grownBy_setB (Go.Lib.grownBy_setB (Go.Lib.grownBy_setB (Go.Lib.grownBy_setB h.grown _ _) _ _) _ _) _ _⟩
  rw [size_swp] at hk
  simp only [World.frozen?_setCell]
  have hc : ∀ t, t < d.size → (w.cell? ⟨blk, off + t * 2, none⟩).isSome = true ∧ (w.cell? ⟨blk, off + t * 2 + 1, none⟩).isSome = true := fun t ht => by
    have := h.holds t ht; rw [this.1, this.2.1]; exact ⟨rfl, rfl⟩
  have a1 := (hc i hi).1
  have a2 := isSome_set a1 (hc i hi).2 (.int .i64 d[j]!.1)
  have a3 := isSome_set a2 (isSome_set a1 (hc j hj).1 (.int .i64 d[j]!.1)) (.int .i64 d[j]!.2)
  have a4 := isSome_set a3 (isSome_set a2 (isSome_set a1 (hc j hj).2 (.int .i64 d[j]!.1)) (.int .i64 d[j]!.2)) (.int .i64 d[i]!.1)
  rw [cell_set a4, cell_set a3, cell_set a2, cell_set a1, cell_set a4, cell_set a3, cell_set a2, cell_set a1, swp_get d hi hj]
  obtain ⟨h1, h2, h3, h4⟩ := h.holds k hk
  refine ⟨?_, ?_, h3, h4⟩
  · by_cases e1 : k = j
    · subst e1; rw [if_neg (by omega), if_pos rfl]; simp
    · rw [if_neg (by omega), if_neg (by omega), if_neg e1]
      by_cases e2 : k = i
      · subst e2; rw [if_neg (by omega), if_pos rfl]; simp
      · rw [if_neg (by omega), if_neg (by omega), if_neg e2]; exact h1
  · by_cases e1 : k = j
    · subst e1; rw [if_pos rfl]; simp
    · rw [if_neg (by omega), if_neg (by omega), if_neg e1]
      by_cases e2 : k = i
      · subst e2; rw [if_pos rfl]; simp
      · rw [if_neg (by omega), if_neg (by omega), if_neg e2]; exact h2

theorem St2.drew (h : St2 w0 blk off d w) : St2 w0 blk off d w.drew := h.drewN 1
theorem St2.some1 (h : St2 w0 blk off d w) {i : Nat} (hi : i < d.size) : (w.cell? ⟨blk, off + i * 2, none⟩).isSome = true := by rw [(h.holds i hi).1]; rfl
theorem St2.some2 (h : St2 w0 blk off d w) {i : Nat} (hi : i < d.size) : (w.cell? ⟨blk, off + i * 2 + 1, none⟩).isSome = true := by rw [(h.holds i hi).2.1]; rfl
theorem St2.third (h : St2 w0 blk off d w) (i j : Nat) (hi : i < d.size) (hj : j < d.size) (v v' : Value) : ∃ u, ((w.setCell ⟨blk, off + i * 2, none⟩ v).setCell ⟨blk, off + i * 2 + 1, none⟩ v').cell? ⟨blk, off + j * 2, none⟩ = some u :=
  Option.isSome_iff_exists.1 (isSome_set (isSome_set (h.some1 hi) (h.some2 hi) _) (isSome_set (h.some1 hi) (h.some1 hj) _) _)
theorem St2.fourth (h : St2 w0 blk off d w) (i j : Nat) (hi : i < d.size) (hj : j < d.size) (v v' v'' : Value) :
    ∃ u, (((w.setCell ⟨blk, off + i * 2, none⟩ v).setCell ⟨blk, off + i * 2 + 1, none⟩ v').setCell ⟨blk, off + j * 2, none⟩ v'').cell? ⟨blk, off + j * 2 + 1, none⟩ = some u :=
  Option.isSome_iff_exists.1 (isSome_set (isSome_set (isSome_set (h.some1 hi) (h.some2 hi) _) (isSome_set (h.some1 hi) (h.some1 hj) _) _) (isSome_set (isSome_set (h.some1 hi) (h.some2 hi) _) (isSome_set (h.some1 hi) (h.some2 hj) _) _) _)
/-- A world of the sort's, of a world of the sort's. -/
theorem St2.trans {w1 : World} {d' : Array It} (h : St2 w0 blk off d w1) (k : St2 w1 blk off d' w) : St2 w0 blk off d' w := ⟨k.holds, k.lt, Go.Lib.grownBy_trans h.grown k.grown⟩
theorem St2.self (h : St2 w0 blk off d w) : St2 w blk off d w := ⟨h.holds, h.lt, World.grownBy.refl _ _⟩

end
end Go.Proofs.Ytglgmkikegbchaa
