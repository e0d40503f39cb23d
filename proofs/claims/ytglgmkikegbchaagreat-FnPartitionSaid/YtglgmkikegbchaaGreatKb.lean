/- One box beside the row: a cell of its own, laid since w0 ('swaps', 'random'). -/
import Derived.Test.YtglgmkikegbchaaGreatKa
namespace Go.Proofs.YtglgmkikegbchaaGreat
open Go.RowKit Go.Sort

/-- A box of one cell, apart from the row, laid since w0. -/
structure Box1 (w0 w : World) (blk sb : Nat) (v : Value) : Prop where
  lt : sb < w.heap.size
  ge : w0.heap.size ≤ sb
  ne : blk ≠ sb
  cell : w.cell? ⟨sb, 0, none⟩ = some v
  frozen : w.frozen? ⟨sb, 0, none⟩ = false

variable {w0 w w' : World} {blk sb off : Nat} {v : Value}

theorem Box1.of_block (h : Box1 w0 w blk sb v) (hs : w.heap.size ≤ w'.heap.size) (hb : w'.heap[sb]? = w.heap[sb]?) : Box1 w0 w' blk sb v :=
  ⟨Nat.lt_of_lt_of_le h.lt hs, h.ge, h.ne, (World.cell?_of_block hb).trans h.cell, (World.frozen?_of_block hb).trans h.frozen⟩
theorem Box1.grown (h : Box1 w0 w blk sb v) (g : w.grownBy w' (some blk)) : Box1 w0 w' blk sb v :=
  h.of_block g.size (g.block sb h.lt (fun e => h.ne (Option.some.inj e).symm))
theorem Box1.grow (h : Box1 w0 w blk sb v) (n : Nat) (os : Array Obj) : Box1 w0 (Go.Sort.grow (w.drewN n) os) blk sb v :=
  h.of_block (by simp [Go.Sort.grow]) (heap_grow_old (w.drewN n) os h.lt)
theorem Box1.drewN (h : Box1 w0 w blk sb v) (n : Nat) : Box1 w0 (w.drewN n) blk sb v := h.of_block (Nat.le_refl _) rfl
theorem Box1.drew (h : Box1 w0 w blk sb v) : Box1 w0 w.drew blk sb v := h.drewN 1
theorem Box1.set (h : Box1 w0 w blk sb v) (u : Value) : Box1 w0 (w.setCell ⟨sb, 0, none⟩ u) blk sb u :=
  ⟨by simpa using h.lt, h.ge, h.ne, World.cell?_setCell_same _ _ _ h.cell, by rw [World.frozen?_setCell]; exact h.frozen⟩
theorem grownBy_drew1 {row : Option Nat} (h : w.grownBy w' row) : w.grownBy w'.drew row := grownBy_drewN h 1
theorem grownBy_aside (h : w0.grownBy w (some blk)) (hs : w0.heap.size ≤ sb) (v : Value) : w0.grownBy (w.setCell ⟨sb, 0, none⟩ v) (some blk) :=
  ⟨h.os, h.tape, h.output, by simpa using h.size, fun k hk hr => (Below.heap_setCell w ⟨sb, 0, none⟩ v k (by show k ≠ sb; omega)).trans (h.block k hk hr)⟩
theorem St2.aside {d : Array It} (S : St2 w0 blk off d w) (h : Box1 w0 w blk sb v) (u : Value) : St2 w0 blk off d (w.setCell ⟨sb, 0, none⟩ u) := by
  have hb := Below.heap_setCell w ⟨sb, 0, none⟩ u blk h.ne
  refine ⟨fun i hi => ?_, by simpa using S.lt, grownBy_aside S.grown h.ge u⟩
  obtain ⟨h1, h2, h3, h4⟩ := S.holds i hi
  exact ⟨(World.cell?_of_block hb).trans h1, (World.cell?_of_block hb).trans h2, (World.frozen?_of_block hb).trans h3, (World.frozen?_of_block hb).trans h4⟩
theorem St1.aside {α : Type} [Inhabited α] {enc : α → Value} {d : Array α} (S : St1 enc w0 blk off d w) (h : Box1 w0 w blk sb v) (u : Value) : St1 enc w0 blk off d (w.setCell ⟨sb, 0, none⟩ u) := by
  have hb := Below.heap_setCell w ⟨sb, 0, none⟩ u blk h.ne
  refine ⟨fun i hi => ?_, by simpa using S.lt, grownBy_aside S.grown h.ge u⟩
  obtain ⟨h1, h2⟩ := S.holds i hi
  exact ⟨(World.cell?_of_block hb).trans h1, (World.frozen?_of_block hb).trans h2⟩
theorem Box1.new (w0 w : World) (blk : Nat) (v : Value) (t : TypeId) (hw : w0.heap.size ≤ w.heap.size) (hb : blk < w.heap.size) : Box1 w0 (w.alloc (.cells #[v] t)) blk w.heap.size v :=
  have h : (w.alloc (.cells #[v] t)).heap[w.heap.size]? = some (.cells #[v] t (0, 0)) := heap_alloc_new w _
  ⟨by simp, hw, by omega, by unfold World.cell?; rw [h]; rfl, by unfold World.frozen?; rw [h]; rfl⟩
theorem St2.alloc {d : Array It} (S : St2 w0 blk off d w) (o : Obj) : St2 w0 blk off d (w.alloc o) := by
  rw [alloc_eq_grow]; exact S.grow 0 _
theorem St1.alloc {α : Type} [Inhabited α] {enc : α → Value} {d : Array α} (S : St1 enc w0 blk off d w) (o : Obj) : St1 enc w0 blk off d (w.alloc o) := by
  rw [alloc_eq_grow]; exact S.grow1 0 _
end Go.Proofs.YtglgmkikegbchaaGreat
