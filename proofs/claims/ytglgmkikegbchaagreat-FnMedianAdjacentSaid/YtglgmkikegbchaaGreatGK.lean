/- Texts of this claim, laid together: Ka, Wc0, Wf0, Kb, Mid, Qw, Wo0. -/
import Derived.WalkKit
import Derived.WalkSpells
import Derived.WalkLawsBesides
import Derived.Sort.WalkC
import Derived.Sort.WalkB12
import Derived.Sort.Grow
import Derived.Lib.BufferOwn
import Derived.BigRegion
import Derived.BigQuiet
import Derived.Deep.QuietTactic
import Derived.Deep.LoopGhost
import Derived.Shelf.SlSortCmp.QuietGrown
import Derived.Deep.Cut
import Derived.Test.YtglgmkikegbchaaGreatGP
import Derived.Test.YtglgmkikegbchaaGreatProg
import Derived.StillTail
import Derived.StillTactics
import Derived.Lib.QuietBelow
/- What a walk of the sorting says of memory: 'the row holds d, and since w0 only the row's block and new blocks have changed'. -/
namespace Go.Proofs.YtglgmkikegbchaaGreat
open Go.RowKit Go.Sort
section
variable {α : Type} [Inhabited α]

/-- A world of the sort's: since w0 only the row's block and new blocks have changed, and the row holds d. -/
structure St1 (enc : α → Value) (w0 : World) (blk off : Nat) (d : Array α) (w : World) : Prop where
  holds : Holds enc w blk off d
  lt : blk < w.heap.size
  grown : w0.grownBy w (some blk)

variable {enc : α → Value} {w0 w : World} {blk off : Nat} {d : Array α}

theorem grownBy_drewN {w w' : World} {row : Option Nat} (h : w.grownBy w' row) (n : Nat) : w.grownBy (w'.drewN n) row := ⟨h.os, h.tape, h.output, h.size, h.block⟩
theorem grownBy_grow {w w' : World} {row : Option Nat} (h : w.grownBy w' row) (os : Array Obj) : w.grownBy (grow w' os) row :=
  ⟨h.os, h.tape, h.output, Nat.le_trans h.size (by simp [grow]), fun k hk hr => by
    rw [heap_grow_old w' os (Nat.lt_of_lt_of_le hk h.size)]; exact h.block k hk hr⟩

theorem St1.drewN (h : St1 enc w0 blk off d w) (n : Nat) : St1 enc w0 blk off d (w.drewN n) := ⟨h.holds, h.lt, grownBy_drewN h.grown n⟩
theorem St1.drew (h : St1 enc w0 blk off d w) : St1 enc w0 blk off d w.drew := ⟨h.holds, h.lt, grownBy_drewN h.grown 1⟩
theorem St1.grow1 (h : St1 enc w0 blk off d w) (n : Nat) (os : Array Obj) : St1 enc w0 blk off d (Go.Sort.grow (w.drewN n) os) :=
  ⟨holds_grow enc _ os blk off d h.lt h.holds, by rw [show (Go.Sort.grow (w.drewN n) os).heap.size = w.heap.size + os.size from by simp [Go.Sort.grow]]; have := h.lt; omega, grownBy_grow (grownBy_drewN h.grown n) os⟩
theorem St1.cell (h : St1 enc w0 blk off d w) {i : Nat} (hi : i < d.size) : w.cell? ⟨blk, off + i, none⟩ = some (enc d[i]!) := (h.holds i hi).1
theorem St1.frozen (h : St1 enc w0 blk off d w) {i : Nat} (hi : i < d.size) : w.frozen? ⟨blk, off + i, none⟩ = false := (h.holds i hi).2
theorem St1.swap (h : St1 enc w0 blk off d w) {i j : Nat} (hi : i < d.size) (hj : j < d.size) {x y : α} (hx : x = d[i]!) (hy : y = d[j]!) :
    St1 enc w0 blk off (swp d i j) ((w.setCell ⟨blk, off + i, none⟩ (enc y)).setCell ⟨blk, off + j, none⟩ (enc x)) := by
  subst hx hy
  refine ⟨?_, by simpa using h.lt, Go.Lib.grownBy_setB (Go.Lib.grownBy_setB h.grown _ _) _ _⟩
  have e := putRow_swp enc w blk off d i j hi hj
  rw [putRow_self enc w blk off d h.holds] at e
  rw [e]
  exact holds_putRow enc w blk off d _ h.holds (by rw [size_swp])

theorem St1.second (h : St1 enc w0 blk off d w) (i j : Nat) (_hi : i < d.size) (hj : j < d.size) (v : Value) : ∃ u, (w.setCell ⟨blk, off + i, none⟩ v).cell? ⟨blk, off + j, none⟩ = some u := by
  by_cases e : i = j
  · subst e; exact ⟨v, World.cell?_setCell_same _ _ _ (h.cell hj)⟩
  · exact ⟨_, (World.cell?_setCell_other _ _ _ _ (by intro e'; simp only [Addr.mk.injEq] at e'; omega)).trans (h.cell hj)⟩

theorem St1.trans {w1 : World} {d' : Array α} (h : St1 enc w0 blk off d w1) (k : St1 enc w1 blk off d' w) : St1 enc w0 blk off d' w := ⟨k.holds, k.lt, Go.Lib.grownBy_trans h.grown k.grown⟩
theorem St1.self (h : St1 enc w0 blk off d w) : St1 enc w blk off d w := ⟨h.holds, h.lt, World.grownBy.refl _ _⟩
end
section
/-- An element: its key and its tag. -/
abbrev It := Int × Int
abbrev vIt (x : It) : Value := .agg #[.int .i64 x.1, .int .i64 x.2]

/-- The row's cells hold d, two cells an element. -/
def Holds2 (w : World) (blk off : Nat) (d : Array It) : Prop := ∀ i, i < d.size →
  w.cell? ⟨blk, off + i * 2, none⟩ = some (.int .i64 d[i]!.1) ∧ w.cell? ⟨blk, off + i * 2 + 1, none⟩ = some (.int .i64 d[i]!.2) ∧
  w.frozen? ⟨blk, off + i * 2, none⟩ = false ∧ w.frozen? ⟨blk, off + i * 2 + 1, none⟩ = false

structure St2 (w0 : World) (blk off : Nat) (d : Array It) (w : World) : Prop where
  holds : Holds2 w blk off d
  lt : blk < w.heap.size
  grown : w0.grownBy w (some blk)

variable {w0 w : World} {blk off : Nat} {d : Array It}

theorem St2.grow (h : St2 w0 blk off d w) (n : Nat) (os : Array Obj) : St2 w0 blk off d (Go.Sort.grow (w.drewN n) os) := by
  refine ⟨fun i hi => ?_, by rw [show (Go.Sort.grow (w.drewN n) os).heap.size = w.heap.size + os.size from by simp [Go.Sort.grow]]; have := h.lt; omega, grownBy_grow (grownBy_drewN h.grown n) os⟩
  have hl : blk < (w.drewN n).heap.size := h.lt
  rw [cell?_grow _ _ _ hl, cell?_grow _ _ _ hl, frozen?_grow _ _ _ hl, frozen?_grow _ _ _ hl]
  exact h.holds i hi
theorem St2.drewN (h : St2 w0 blk off d w) (n : Nat) : St2 w0 blk off d (w.drewN n) := ⟨h.holds, h.lt, grownBy_drewN h.grown n⟩
theorem St2.cells (h : St2 w0 blk off d w) {i : Nat} (hi : i < d.size) {x : It} (hx : x = d[i]!) (n : Nat) (os : Array Obj) :
    (Go.Sort.grow (w.drewN n) os).cell? ⟨blk, off + i * 2, none⟩ = some (.int .i64 x.1) ∧ (Go.Sort.grow (w.drewN n) os).cell? ⟨blk, off + i * 2 + 1, none⟩ = some (.int .i64 x.2) := by
  subst hx
  exact ⟨((h.grow n os).holds i hi).1, ((h.grow n os).holds i hi).2.1⟩

theorem cell_set {w : World} {b p : Nat} (h : (w.cell? ⟨b, p, none⟩).isSome = true) (v : Value) (q : Nat) :
    (w.setCell ⟨b, p, none⟩ v).cell? ⟨b, q, none⟩ = if q = p then some v else w.cell? ⟨b, q, none⟩ := by
  by_cases e : q = p
  · rw [if_pos e, e]; exact World.cell?_setCell_same' _ _ _ h
  · rw [if_neg e]; exact World.cell?_setCell_other _ _ _ _ (fun h => e (by cases h; rfl))
theorem isSome_set {w : World} {b p q : Nat} (hp : (w.cell? ⟨b, p, none⟩).isSome = true) (hq : (w.cell? ⟨b, q, none⟩).isSome = true) (v : Value) :
    ((w.setCell ⟨b, p, none⟩ v).cell? ⟨b, q, none⟩).isSome = true := by
  rw [cell_set hp]; split
  · rfl
  · exact hq

/-- The four stores of an exchange. -/
theorem St2.swap (h : St2 w0 blk off d w) {i j : Nat} (hi : i < d.size) (hj : j < d.size) {x y : It} (hx : x = d[i]!) (hy : y = d[j]!) :
    St2 w0 blk off (swp d i j) ((((w.setCell ⟨blk, off + i * 2, none⟩ (.int .i64 y.1)).setCell ⟨blk, off + i * 2 + 1, none⟩ (.int .i64 y.2)).setCell ⟨blk, off + j * 2, none⟩ (.int .i64 x.1)).setCell ⟨blk, off + j * 2 + 1, none⟩ (.int .i64 x.2)) := by
  subst hx hy
  refine ⟨fun k hk => ?_, by simpa using h.lt, Go.Lib.grownBy_setB (Go.Lib.grownBy_setB (Go.Lib.grownBy_setB (Go.Lib.grownBy_setB h.grown _ _) _ _) _ _) _ _⟩
  rw [size_swp] at hk
  simp only [World.frozen?_setCell]
  have hc : ∀ t, t < d.size → (w.cell? ⟨blk, off + t * 2, none⟩).isSome = true ∧ (w.cell? ⟨blk, off + t * 2 + 1, none⟩).isSome = true := fun t ht => by
    have := h.holds t ht; rw [this.1, this.2.1]; exact ⟨rfl, rfl⟩
  have a1 := (hc i hi).1
  have a2 := isSome_set a1 (hc i hi).2 (.int .i64 d[j]!.1)
  have a3 := isSome_set a2 (isSome_set a1 (hc j hj).1 (.int .i64 d[j]!.1)) (.int .i64 d[j]!.2)
  have a4 := isSome_set a3 (isSome_set a2 (isSome_set a1 (hc j hj).2 (.int .i64 d[j]!.1)) (.int .i64 d[j]!.2)) (.int .i64 d[i]!.1)
  rw [cell_set a4, cell_set a3, cell_set a2, cell_set a1, cell_set a4, cell_set a3, cell_set a2, cell_set a1, swp_get d hi hj]
  obtain ⟨h1, h2, h3, h4⟩ := h.holds k hk
  refine ⟨?_, ?_, h3, h4⟩
  · by_cases e1 : k = j
    · subst e1; rw [if_neg (by omega), if_pos rfl]; simp
    · rw [if_neg (by omega), if_neg (by omega), if_neg e1]
      by_cases e2 : k = i
      · subst e2; rw [if_neg (by omega), if_pos rfl]; simp
      · rw [if_neg (by omega), if_neg (by omega), if_neg e2]; exact h1
  · by_cases e1 : k = j
    · subst e1; rw [if_pos rfl]; simp
    · rw [if_neg (by omega), if_neg (by omega), if_neg e1]
      by_cases e2 : k = i
      · subst e2; rw [if_pos rfl]; simp
      · rw [if_neg (by omega), if_neg (by omega), if_neg e2]; exact h2

theorem St2.drew (h : St2 w0 blk off d w) : St2 w0 blk off d w.drew := h.drewN 1
theorem St2.some1 (h : St2 w0 blk off d w) {i : Nat} (hi : i < d.size) : (w.cell? ⟨blk, off + i * 2, none⟩).isSome = true := by rw [(h.holds i hi).1]; rfl
theorem St2.some2 (h : St2 w0 blk off d w) {i : Nat} (hi : i < d.size) : (w.cell? ⟨blk, off + i * 2 + 1, none⟩).isSome = true := by rw [(h.holds i hi).2.1]; rfl
theorem St2.third (h : St2 w0 blk off d w) (i j : Nat) (hi : i < d.size) (hj : j < d.size) (v v' : Value) : ∃ u, ((w.setCell ⟨blk, off + i * 2, none⟩ v).setCell ⟨blk, off + i * 2 + 1, none⟩ v').cell? ⟨blk, off + j * 2, none⟩ = some u :=
  Option.isSome_iff_exists.1 (isSome_set (isSome_set (h.some1 hi) (h.some2 hi) _) (isSome_set (h.some1 hi) (h.some1 hj) _) _)
theorem St2.fourth (h : St2 w0 blk off d w) (i j : Nat) (hi : i < d.size) (hj : j < d.size) (v v' v'' : Value) :
    ∃ u, (((w.setCell ⟨blk, off + i * 2, none⟩ v).setCell ⟨blk, off + i * 2 + 1, none⟩ v').setCell ⟨blk, off + j * 2, none⟩ v'').cell? ⟨blk, off + j * 2 + 1, none⟩ = some u :=
  Option.isSome_iff_exists.1 (isSome_set (isSome_set (isSome_set (h.some1 hi) (h.some2 hi) _) (isSome_set (h.some1 hi) (h.some1 hj) _) _) (isSome_set (isSome_set (h.some1 hi) (h.some2 hi) _) (isSome_set (h.some1 hi) (h.some2 hj) _) _) _)
/-- A world of the sort's, of a world of the sort's. -/
theorem St2.trans {w1 : World} {d' : Array It} (h : St2 w0 blk off d w1) (k : St2 w1 blk off d' w) : St2 w0 blk off d' w := ⟨k.holds, k.lt, Go.Lib.grownBy_trans h.grown k.grown⟩
theorem St2.self (h : St2 w0 blk off d w) : St2 w blk off d w := ⟨h.holds, h.lt, World.grownBy.refl _ _⟩

end
end Go.Proofs.YtglgmkikegbchaaGreat

/- What is asked of the function that compares. -/
namespace Go.Proofs.YtglgmkikegbchaaGreat
open Go.RowKit Go.Sort

def ltC (cf : It → It → Int) : It → It → Bool := fun x y => decide (cf x y < 0)
/-- The method value of an order O compares by cf; it may draw and lay blocks of its own. -/
def CmpC (O : Value) (cf : It → It → Int) : Prop := ∀ (x y : It) (W : World), Calls Tryz.prog 43 #[O, vIt x, vIt y] W fun e w' => e = .returned (.int .i64 (cf x y)) ∧ ∃ q os, w' = grow (W.drewN q) os
theorem CmpC.out {O : Value} {cf : It → It → Int} (h : Aside (CmpC O cf)) (x y : It) (W : World) : Calls Tryz.prog 43 #[O, vIt x, vIt y] W fun e w' => e = .returned (.int .i64 (cf x y)) ∧ ∃ q os, w' = grow (W.drewN q) os := h x y W
end Go.Proofs.YtglgmkikegbchaaGreat

/- What is asked of an Interface value. -/
namespace Go.Proofs.YtglgmkikegbchaaGreat
open Go.RowKit Go.Sort

/-- The Interface value is over the row of n elements: its Less compares by lt, its Swap exchanges. -/
structure FaceOk (T : TypeId) (rv : Value) (lt : It → It → Bool) (w0 : World) (blk off n : Nat) (gl gs : Nat) (rl rs : Value) : Prop where
  eL : ∀ args w, (callFunc gl args).run Tryz.prog w = .ok (.enter gl args) w
  eS : ∀ args w, (callFunc gs args).run Tryz.prog w = .ok (.enter gs args) w
  methL : ∀ d W, St2 w0 blk off d W → Sem.run Tryz.prog (method 256 T rv "Less") W = .ok (gl, rl) W
  methS : ∀ d W, St2 w0 blk off d W → Sem.run Tryz.prog (method 256 T rv "Swap") W = .ok (gs, rs) W
  less : ∀ d W (i j : Nat), d.size = n → St2 w0 blk off d W → i < n → j < n →
    Calls Tryz.prog gl #[rl, .int .i64 i, .int .i64 j] W fun e w' => e = .returned (.bool (lt d[i]! d[j]!)) ∧ ∃ q os, w' = grow (W.drewN q) os
  swap : ∀ d W (i j : Nat), d.size = n → St2 w0 blk off d W → i < n → j < n →
    Calls Tryz.prog gs #[rs, .int .i64 i, .int .i64 j] W fun e w' => e = .returned (.tuple #[]) ∧ St2 w0 blk off (swp d i j) w' ∧ W.grownBy w' (some blk)
end Go.Proofs.YtglgmkikegbchaaGreat

/- One box beside the row: a cell of its own, laid since w0 ('swaps', 'random'). -/
namespace Go.Proofs.YtglgmkikegbchaaGreat
open Go.RowKit Go.Sort

/-- A box of one cell, apart from the row, laid since w0. -/
structure Box1 (w0 w : World) (blk sb : Nat) (v : Value) : Prop where
  lt : sb < w.heap.size
  ge : w0.heap.size ≤ sb
  ne : blk ≠ sb
  cell : w.cell? ⟨sb, 0, none⟩ = some v
  frozen : w.frozen? ⟨sb, 0, none⟩ = false

variable {w0 w w' : World} {blk sb off : Nat} {v : Value}

theorem Box1.of_block (h : Box1 w0 w blk sb v) (hs : w.heap.size ≤ w'.heap.size) (hb : w'.heap[sb]? = w.heap[sb]?) : Box1 w0 w' blk sb v :=
  ⟨Nat.lt_of_lt_of_le h.lt hs, h.ge, h.ne, (World.cell?_of_block hb).trans h.cell, (World.frozen?_of_block hb).trans h.frozen⟩
theorem Box1.grown (h : Box1 w0 w blk sb v) (g : w.grownBy w' (some blk)) : Box1 w0 w' blk sb v :=
  h.of_block g.size (g.block sb h.lt (fun e => h.ne (Option.some.inj e).symm))
theorem Box1.grow (h : Box1 w0 w blk sb v) (n : Nat) (os : Array Obj) : Box1 w0 (Go.Sort.grow (w.drewN n) os) blk sb v :=
  h.of_block (by simp [Go.Sort.grow]) (heap_grow_old (w.drewN n) os h.lt)
theorem Box1.drewN (h : Box1 w0 w blk sb v) (n : Nat) : Box1 w0 (w.drewN n) blk sb v := h.of_block (Nat.le_refl _) rfl
theorem Box1.drew (h : Box1 w0 w blk sb v) : Box1 w0 w.drew blk sb v := h.drewN 1
theorem Box1.set (h : Box1 w0 w blk sb v) (u : Value) : Box1 w0 (w.setCell ⟨sb, 0, none⟩ u) blk sb u :=
  ⟨by simpa using h.lt, h.ge, h.ne, World.cell?_setCell_same _ _ _ h.cell, by rw [World.frozen?_setCell]; exact h.frozen⟩
theorem grownBy_drew1 {row : Option Nat} (h : w.grownBy w' row) : w.grownBy w'.drew row := grownBy_drewN h 1
theorem grownBy_aside (h : w0.grownBy w (some blk)) (hs : w0.heap.size ≤ sb) (v : Value) : w0.grownBy (w.setCell ⟨sb, 0, none⟩ v) (some blk) :=
  ⟨h.os, h.tape, h.output, by simpa using h.size, fun k hk hr => (Below.heap_setCell w ⟨sb, 0, none⟩ v k (by show k ≠ sb; omega)).trans (h.block k hk hr)⟩
theorem St2.aside {d : Array It} (S : St2 w0 blk off d w) (h : Box1 w0 w blk sb v) (u : Value) : St2 w0 blk off d (w.setCell ⟨sb, 0, none⟩ u) := by
  have hb := Below.heap_setCell w ⟨sb, 0, none⟩ u blk h.ne
  refine ⟨fun i hi => ?_, by simpa using S.lt, grownBy_aside S.grown h.ge u⟩
  obtain ⟨h1, h2, h3, h4⟩ := S.holds i hi
  exact ⟨(World.cell?_of_block hb).trans h1, (World.cell?_of_block hb).trans h2, (World.frozen?_of_block hb).trans h3, (World.frozen?_of_block hb).trans h4⟩
theorem St1.aside {α : Type} [Inhabited α] {enc : α → Value} {d : Array α} (S : St1 enc w0 blk off d w) (h : Box1 w0 w blk sb v) (u : Value) : St1 enc w0 blk off d (w.setCell ⟨sb, 0, none⟩ u) := by
  have hb := Below.heap_setCell w ⟨sb, 0, none⟩ u blk h.ne
  refine ⟨fun i hi => ?_, by simpa using S.lt, grownBy_aside S.grown h.ge u⟩
  obtain ⟨h1, h2⟩ := S.holds i hi
  exact ⟨(World.cell?_of_block hb).trans h1, (World.frozen?_of_block hb).trans h2⟩
theorem Box1.new (w0 w : World) (blk : Nat) (v : Value) (t : TypeId) (hw : w0.heap.size ≤ w.heap.size) (hb : blk < w.heap.size) : Box1 w0 (w.alloc (.cells #[v] t)) blk w.heap.size v :=
  have h : (w.alloc (.cells #[v] t)).heap[w.heap.size]? = some (.cells #[v] t (0, 0)) := heap_alloc_new w _
  ⟨by simp, hw, by omega, by unfold World.cell?; rw [h]; rfl, by unfold World.frozen?; rw [h]; rfl⟩
theorem St2.alloc {d : Array It} (S : St2 w0 blk off d w) (o : Obj) : St2 w0 blk off d (w.alloc o) := by
  rw [alloc_eq_grow]; exact S.grow 0 _
theorem St1.alloc {α : Type} [Inhabited α] {enc : α → Value} {d : Array α} (S : St1 enc w0 blk off d w) (o : Obj) : St1 enc w0 blk off d (w.alloc o) := by
  rw [alloc_eq_grow]; exact S.grow1 0 _
end Go.Proofs.YtglgmkikegbchaaGreat

/- A region that draws its order: operations that only read, then ONE that may do whatever it likes (a call that writes), then again such as only read, which may come in any order among themselves. -/
namespace Go.Proofs.YtglgmkikegbchaaGreat
open Go
section
variable {P : Program} {ops : Array Oper} {md : Region.Mode} {w : World}

/-- Each operation behind the n-th one waits for one that is not ahead of the n-th. -/
def tiedB (md : Region.Mode) (ops : Array Oper) (n : Nat) : Bool :=
  (List.range ops.size).all fun t => decide (t ≤ n) || (List.range t).any fun j => decide (n ≤ j) && Region.waitsFor md ops t j

/-- As long as one ahead of the n-th has not been, none from the n-th on comes up. -/
theorem late_waits {n : Nat} {listed : Array Bool} (hs : Region.sinkB md ops n = true) (hc : tiedB md ops n = true) (hn : n < ops.size) (inv : HeadInv md ops n listed) :
    ∀ (d i : Nat), n - i = d → i < n → listed.getD i true = false → ∀ t, n ≤ t → t ∉ Region.ready md ops listed := by
  intro d
  induction d using Nat.strongRecOn with
  | _ d ih =>
    intro i hd hi hun t ht hr
    obtain ⟨_, ot, hot, hall⟩ := mem_ready.1 hr
    have htlt : t < ops.size := (Array.getElem?_eq_some_iff.1 hot).1
    have clash : ∀ j, Region.waitsFor md ops t j = true → listed.getD j true = false → False := fun j hw hj => by
      obtain ⟨o', ho', e, he, hb, hon⟩ := Region.waitsFor_spec hw
      cases Option.some.inj (ho'.symm.trans hot)
      have h2 := hall e he hb
      rw [hon, getD_both hj] at h2
      cases h2
    rcases Nat.eq_or_lt_of_le ht with rfl | hlt
    · obtain ⟨j, hj, hj2⟩ := List.any_eq_true.1 (List.all_eq_true.1 hs i (List.mem_range.2 hi))
      simp only [Bool.and_eq_true, decide_eq_true_eq] at hj2
      have hjn := List.mem_range.1 hj
      by_cases hjt : j = n
      · subst hjt; exact clash i hj2.2 hun
      · obtain ⟨oj, hoj, e, he, hb, hon⟩ := Region.waitsFor_spec hj2.2
        cases hl : listed.getD j false with
        | true =>
          have h2 := inv.closed j oj hoj hl e he hb
          rw [hon, getD_both hun] at h2
          cases h2
        | false => exact ih (n - j) (by omega) j rfl (by omega) (getD_in (by rw [inv.size]; omega) hl) n (Nat.le_refl _) hr
    · have h1 := List.all_eq_true.1 hc t (List.mem_range.2 htlt)
      simp only [Bool.or_eq_true, decide_eq_true_eq] at h1
      rcases h1 with h1 | h1
      · omega
      · obtain ⟨j, hj, hj2⟩ := List.any_eq_true.1 h1
        simp only [Bool.and_eq_true, decide_eq_true_eq] at hj2
        exact clash j hj2.2 (inv.tail j hj2.1 (by have := List.mem_range.1 hj; omega))

theorem head_first {n i : Nat} {oi : Oper} {v : Value} {L : Array Bool → Act → Prop} (hi : ops[i]? = some oi) (hsel : Region.noSelect ops = true)
    (hs : Region.sinkB md ops n = true) (hc : tiedB md ops n = true) (hn : n < ops.size) (hdone : ∀ listed a, L listed a → ∀ j ∈ Region.ready md ops listed, n ≤ j) :
    ∀ (f : Nat) (listed : Array Bool) (a : Act), HeadInv md ops n listed → i < n →
      (∀ j oj, ops[j]? = some oj → j ≠ i → listed.getD j true = false → (∀ e ∈ oj.after, Region.binds md e = true → e.on ≠ i) → oi.apart ops oj = true) →
      i ∈ Region.ready md ops listed → YieldsAt P ops w oi v a →
      wpAnyL P md ops w n L f (listed.setIfInBounds i true) (a.put oi.dst v) → wpAnyL P md ops w n L (f + 1) listed a := by
  intro f
  induction f with
  | zero =>
    intro listed a inv hin _ hr hy H
    refine ⟨List.ne_nil_of_mem hr, fun j hj => ?_⟩
    have hjn : j < n := Nat.lt_of_not_le fun h => late_waits hs hc hn inv _ i rfl hin (mem_ready.1 hr).1 j h hj
    refine ⟨hjn, ?_⟩
    by_cases hji : j = i
    · subst hji; exact hy.stOp hi H
    · exact absurd (hdone _ _ H j (ready_mono hj hji)) (by omega)
  | succ f ih =>
    intro listed a inv hin hfree hr hy H
    have hun := (mem_ready.1 hr).1
    refine ⟨List.ne_nil_of_mem hr, fun j hj => ?_⟩
    have hjn : j < n := Nat.lt_of_not_le fun h => late_waits hs hc hn inv _ i rfl hin hun j h hj
    refine ⟨hjn, ?_⟩
    by_cases hji : j = i
    · subst hji; exact hy.stOp hi H
    · obtain ⟨hjun, oj, hoj, hall⟩ := mem_ready.1 hj
      have hnot : ∀ e ∈ oj.after, Region.binds md e = true → e.on ≠ i := fun e he hb heq => by
        have h1 := hall e he hb
        rw [heq, getD_both hun] at h1
        cases h1
      have h2 := stOp_put hoj (hfree j oj hoj hji hjun hnot) (fun cs b => Region.noSelect_spec hsel i oi cs b hi) (fun cs b => Region.noSelect_spec hsel j oj cs b hoj) hy (H.2 j (ready_mono hj hji)).2
      refine stOp_mono (fun a' h3 => ih (listed.setIfInBounds j true) a' (inv.set hj hjn) hin (fun k ok hk hki hun hno => hfree k ok hk hki ?_ hno) (ready_mono hr (Ne.symm hji)) h3.1 ?_) h2
      · by_cases hjk : j = k
        · subst hjk; exact hjun
        · rw [getD_set_ne true hjk] at hun; exact hun
      · rw [Array.setIfInBounds_comm _ _ hji]
        exact h3.2

/-- The head goes in the order of the text; then the n-th alone comes up; then the rest, in the order of the text. -/
def headB (md : Region.Mode) (ops : Array Oper) (g n : Nat) : Nat → Nat → Array Bool → Bool
  | 0, _, listed => decide (Region.ready md ops listed = [n]) && Region.lexFrom md ops g (n + 1) (listed.setIfInBounds n true)
  | f + 1, k, listed => (Region.ready md ops listed).contains k && Region.free md ops listed k && headB md ops g n f (k + 1) (listed.setIfInBounds k true)
def midB (md : Region.Mode) (ops : Array Oper) (n : Nat) : Bool :=
  Region.noSelect ops && decide (n < ops.size) && Region.sinkB md ops n && tiedB md ops n && headB md ops (ops.size - (n + 1)) n n 0 (Array.replicate ops.size false)

theorem head_lex {n g : Nat} {Lq : Act → Prop} (hsel : Region.noSelect ops = true) (hs : Region.sinkB md ops n = true) (hc : tiedB md ops n = true) (hn : n < ops.size) :
    ∀ (l : List Oper) (k : Nat) (listed : Array Bool) (a : Act), (∀ j, j < l.length → l[j]? = ops[k + j]?) → k + l.length = n → HeadInv md ops n listed →
    headB md ops g n l.length k listed = true → wpStill P ops w Lq l a →
    wpAnyL P md ops w n (fun listed' a' => (Region.ready md ops listed' = [n] ∧ Region.lexFrom md ops g (n + 1) (listed'.setIfInBounds n true) = true) ∧ Lq a') l.length listed a
  | [], k, listed, a, _, _, _, hB, h => by
    simp only [List.length_nil, headB, Bool.and_eq_true, decide_eq_true_eq] at hB
    exact ⟨hB, h⟩
  | o :: l, k, listed, a, hl, hk, inv, hB, h => by
    have h0 : ops[k]? = some o := by simpa using (hl 0 (by simp)).symm
    simp only [List.length_cons, headB, Bool.and_eq_true] at hB
    obtain ⟨⟨hr, hf⟩, hB'⟩ := hB
    have hkn : k < n := by simp only [List.length_cons] at hk; omega
    have hr' : k ∈ Region.ready md ops listed := by simpa using hr
    have hst : stOp P ops w k (wpStill P ops w Lq l) a := by unfold stOp; simp only [h0]; exact h
    obtain ⟨v, hy, hK⟩ := yieldsAt_of_stOp h0 hst
    exact head_first h0 hsel hs hc hn (fun listed' a' hL j hj => by rw [hL.1.1] at hj; simp at hj; omega) l.length listed a inv hkn (Region.free_spec h0 hf) hr' hy
      (head_lex hsel hs hc hn l (k + 1) _ _ (fun j hj => by have := hl (j + 1) (by simp; omega); simpa [Nat.add_assoc, Nat.add_comm 1 j] using this) (by simp only [List.length_cons] at hk; omega) (inv.set hr' hkn) hB' hK)

theorem wp_other {o : Oper} {a : Act} {K K' : Act → World → Prop} {Q Q' : Exit → Act → World → Prop} (h : ∀ a w, K a w → K' a w) (hq : ∀ e a w, e ≠ .normal → Q e a w → Q' e a w) (hh : o.wp P a w K Q) : o.wp P a w K' Q' := by
  unfold Oper.wp at *
  generalize (execOp a.eval o).run P w = r at *
  cases r with
  | ok n w' =>
    cases n <;> simp only [Oper.upon] at hh ⊢ <;>
      first
        | exact h _ _ hh
        | exact Calls.mono hh (fun e w'' he => by
            cases e
            · exact h _ _ he
            · exact hq _ _ _ (fun h => by cases h) he
            · obtain ⟨a1, w1, h1⟩ := he; exact ⟨a1, w1, hq _ _ _ (fun h => by cases h) h1⟩)
        | exact Rows.mono hh (fun _ _ he => h _ _ he)
  | halt x w' => cases x <;> simp only [Oper.upon] at hh ⊢ <;> exact hq _ _ _ (fun h => by cases h) hh

theorem wp_region_still_mid {id : Nat} {Q : Exit → Act → World → Prop} {a : Act} {w : World} {l : List Oper} (n : Nat) (hm : P.follows .mixedOrders = true) (hB : midB .any l.toArray n = true)
    (h : ∀ Q1 : Exit → Act → World → Prop, (∀ a w, wpStill P l.toArray w (fun a' => Q .normal a' w) (l.drop (n + 1)) a → Q1 .normal a w) →
      wpStill P l.toArray { w with drawn := w.drawn + 1 } (fun a' => wpList P l.toArray Q1 ((l.drop n).take 1) a' { w with drawn := w.drawn + 1 }) (l.take n) a) : (Code.region id l.toArray true).wp P Q a w := by
  simp only [midB, Bool.and_eq_true, decide_eq_true_eq] at hB
  obtain ⟨⟨⟨⟨hsel, hn⟩, hs⟩, hc⟩, hlex⟩ := hB
  have hn' : n < l.length := by simpa using hn
  have htl : (l.take n).length = n := by simp; omega
  have hdl : (l.drop (n + 1)).length = l.toArray.size - (n + 1) := by simp
  have inv0 : HeadInv .any l.toArray n (Array.replicate l.toArray.size false) :=
    ⟨by simp, fun j oj _ hl => (by rw [getD_replicate_false] at hl; cases hl), fun t _ ht => getD_in (by simpa using ht) (getD_replicate_false _ _)⟩
  have H := head_lex (md := .any) (g := l.toArray.size - (n + 1)) hsel hs hc hn (l.take n) 0 _ a (fun j hj => by
    have hj' : j < n := by rw [htl] at hj; exact hj
    simp [hj']) (by simpa using htl) inv0 (by rw [htl]; exact hlex)
    (h (fun e a w => e = .normal ∧ wpStill P l.toArray w (fun a' => Q .normal a' w) (l.drop (n + 1)) a) (fun _ _ h => ⟨rfl, h⟩))
  refine wp_region_any hm ?_
  have := wpAny_of_head (Q' := Q) (g := l.toArray.size - (n + 1) + 1) (fun listed a' hL => ?_) _ _ _ H
  · rw [htl, show n + (l.toArray.size - (n + 1) + 1) = l.toArray.size by omega] at this
    exact this
  · obtain ⟨⟨hr, hf⟩, hq⟩ := hL
    refine ⟨fun h0 => (by rw [hr] at h0; cases h0), fun i hi => ?_⟩
    rw [hr] at hi
    obtain rfl : i = n := by simpa using hi
    have hon : l.toArray[i]? = some l[i] := by simp [hn']
    rw [List.drop_eq_getElem_cons hn'] at hq
    simp only [List.take_succ_cons, List.take_zero] at hq
    have go : ∀ a w, wpStill P l.toArray w (fun a' => Q .normal a' w) (l.drop (i + 1)) a → wpAny P .any l.toArray Q (l.toArray.size - (i + 1)) (listed.setIfInBounds i true) a w := fun a w h => by
      have := wpAnyS_lex (md := .any) hsel (l.drop (i + 1)) (i + 1) (listed.setIfInBounds i true) a (fun j => by simp [List.getElem?_drop]) (by rw [hdl]; exact hf) h
      rw [hdl] at this
      exact wpAny_of_still (fun _ h => h) _ _ _ this
    unfold wpOp
    simp only [hon]
    simp only [wpList] at hq
    split
    · rename_i hw
      simp only [hw, if_true] at hq
      rcases hq with hq | ⟨_, a1, w1, h1, _⟩
      · exact Or.inl (wp_other (fun a w h => go a w h.2) (fun e a w he h => absurd h.1 he) hq)
      · cases h1
    · rename_i hw
      simp only [hw] at hq
      exact go _ _ hq.2
end
end Go.Proofs.YtglgmkikegbchaaGreat

/- The quiet walk through a region, behind a structure: a goal that nothing unfolds by itself (an operation that a guard leaves out is else looked through, and those behind it, at every step). -/
namespace Go.Proofs.YtglgmkikegbchaaGreat
open Go
section
variable {P : Program} {ops : Array Oper} {C : World → Prop} {Q : Act → Prop} {a : Act}
structure Qw (P : Program) (ops : Array Oper) (C : World → Prop) (Q : Act → Prop) (l : List Oper) (a : Act) : Prop where
  out : wpQuiet P ops C Q l a
theorem Qw.nil (h : Q a) : Qw P ops C Q [] a := ⟨wpQuiet_nil h⟩
theorem Qw.step {o : Oper} {rest : List Oper} (h : ∀ K : Act → Prop, (∀ a, Qw P ops C Q rest a → K a) → if Region.wanted o (yielded ops a.tmps) then o.quiet P a C K else K (a.put o.dst undef)) : Qw P ops C Q (o :: rest) a :=
  ⟨wpQuiet_step fun K hK => h K fun a ha => hK a ha.out⟩
theorem region_below {id : Nat} {Q : Exit → Act → World → Prop} {w : World} {l : List Oper} (hm : P.follows .mixedOrders = true) (hB : Region.lexB .any l.toArray = true)
    (h : Qw P l.toArray (fun w' => ∃ p : Regrown, w' = Go.Sort.grow (redrawn w p.d) p.os) (fun a' => ∀ w', (∃ p : Regrown, w' = Go.Sort.grow (redrawn w p.d) p.os) → Q .normal a' w') l a) : (Code.region id l.toArray true).wp P Q a w :=
  wp_region_quiet_below hm hB h.out
theorem region_drew {id : Nat} {Q : Exit → Act → World → Prop} {w : World} {l : List Oper} (hm : P.follows .mixedOrders = true) (hB : Region.lexB .any l.toArray = true)
    (h : Qw P l.toArray (fun w' => ∃ n, w' = w.drewN n) (fun a' => ∀ w', (∃ n, w' = w.drewN n) → Q .normal a' w') l a) : (Code.region id l.toArray true).wp P Q a w :=
  wp_region_quiet_lit hm hB h.out
end
end Go.Proofs.YtglgmkikegbchaaGreat

/- cmp.Less at int64. -/
namespace Go.Proofs.YtglgmkikegbchaaGreat
open Go.RowKit Go.Sort

abbrev e64 : Int → Value := fun x => Value.int .i64 x
theorem less_o (x y : Int) (w : World) : Calls Tryz.prog 178 #[.int .i64 x, .int .i64 y] w fun e w' => e = .returned (.bool (ltInt x y)) ∧ w' = w := by
  go_enter Tryz.func178, Tryz.ntmps178
  go_wp2
  all_goals go_ret
  all_goals exact ⟨rfl, rfl⟩
end Go.Proofs.YtglgmkikegbchaaGreat
