/- Each inner function permutes its part, whatever comes of comparing. -/
import Derived.Test.YtglgmkikegbchaaGreatOrd
import Derived.Test.YtglgmkikegbchaaGreatzInnerO
import Derived.Test.YtglgmkikegbchaaGreatPd
import Derived.Test.YtglgmkikegbchaaGreatPb
namespace Go.Proofs.YtglgmkikegbchaaGreat
open Go.Sort Go.RowKit
section
variable {α : Type} [Inhabited α]
theorem perm_swapRange (_lt : α → α → Bool) (d : Array α) (X Y Z : Nat) (h1 : min X Y + Z ≤ max X Y) (h2 : max X Y + Z ≤ d.size) : PermIn (min X Y) (max X Y + Z) d (swapRange d X Y Z) := swapRange_perm _ _ d X Y Z (by omega) (by omega) (by omega) (by omega) h2
theorem perm_reverseRange (_lt : α → α → Bool) (d : Array α) (X Y : Nat) (h1 : X ≤ Y) (h2 : Y ≤ d.size) : PermIn X Y d (reverseRange d X Y) := reverseRange_holds d X Y h1 h2
theorem perm_rotate (_lt : α → α → Bool) (d : Array α) (X Y Z : Nat) (h1 : X < Y) (h2 : Y < Z) (h3 : Z ≤ d.size) : PermIn X Z d (rotate d X Y Z) := (rotate_spec d X Y Z h1 h2 h3).2
theorem perm_breakPatterns (_lt : α → α → Bool) (d : Array α) (X Y : Nat) (h1 : X ≤ Y) (h2 : Y ≤ d.size) : PermIn X Y d (breakPatterns d X Y) := breakPatterns_holds d X Y h1 h2
theorem perm_insertionSort (lt : α → α → Bool) (d : Array α) (X Y : Nat) (_h1 : X ≤ Y) (h2 : Y ≤ d.size) : PermIn X Y d (insertionSort lt d X Y) := insertionSort_perm d X Y h2
theorem perm_heapSort (lt : α → α → Bool) (d : Array α) (X Y : Nat) (h1 : X ≤ Y) (h2 : Y ≤ d.size) : PermIn X Y d (heapSort lt d X Y) := heapSort_perm d X Y h1 h2
theorem perm_siftDown (lt : α → α → Bool) (d : Array α) (X Y Z : Nat) (_h1 : X < Y) (h2 : Z + Y ≤ d.size) : PermIn Z (Z + Y) d (siftDown lt Y Z X d) := siftDown_perm Z (Z + Y) Y Z (Nat.le_refl _) (Nat.le_refl _) _ X d (Nat.le_refl _) h2
theorem perm_symMerge (lt : α → α → Bool) (d : Array α) (X Y Z : Nat) (h1 : X < Y) (h2 : Y < Z) (h3 : Z ≤ d.size) : PermIn X Z d (symMerge lt d X Y Z) := symMerge_perm lt _ X Y Z d (Nat.le_refl _) h1 h2 h3
theorem perm_stable (lt : α → α → Bool) (d : Array α) (X : Nat) (h1 : X ≤ d.size) : PermIn 0 X d (stable lt d X) := by
  have p1 := insBlocks_perm lt 20 X _ 0 d (Nat.le_refl _) h1 (fun d a b h => insertionSort_perm d a b h)
  exact permIn_trans _ _ _ _ _ p1 (stableLoop_perm lt X _ 20 _ (Nat.le_refl _) (by rw [p1.1]; exact h1))
theorem perm_pdqsort (lt : α → α → Bool) (d : Array α) (X Y Z : Nat) (h1 : X ≤ Y) (h2 : Y ≤ d.size) (_h3 : Z ≤ 64) : PermIn 0 Y d (pdq lt d X Y Z true true) := pdq_any lt d X Y Z true true h1 h2
theorem perm_partition (lt : α → α → Bool) (d : Array α) (X Y Z : Nat) (_h1 : X ≤ Y) (h2 : Y ≤ d.size) (h3 : X ≤ Z) (h4 : Z < Y) : PermIn X Y d (partition lt d X Y Z).2.2 := (partition_any d X Y Z h3 h4 h2).2.2
theorem perm_partitionEqual (lt : α → α → Bool) (d : Array α) (X Y Z : Nat) (_h1 : X ≤ Y) (h2 : Y ≤ d.size) (h3 : X ≤ Z) (h4 : Z < Y) : PermIn X Y d (partitionEqual lt d X Y Z).2 := (partitionEqual_any d X Y Z h3 h4 h2).2.2
theorem perm_partialInsertionSort (lt : α → α → Bool) (d : Array α) (X Y : Nat) (h1 : X < Y) (h2 : Y ≤ d.size) : PermIn 0 Y d (partialInsertionSort lt d X Y).1 := partialInsertionSort_perm d X Y h1 h2
theorem size_swapRange' (_lt : α → α → Bool) (d : Array α) (X Y Z : Nat) (_h1 : X + Z ≤ d.size) (_h2 : Y + Z ≤ d.size) : (swapRange d X Y Z).size = d.size := size_swapRange d X Y Z
theorem size_reverseRange (_lt : α → α → Bool) (d : Array α) (X Y : Nat) (h1 : X ≤ Y) (h2 : Y ≤ d.size) : (reverseRange d X Y).size = d.size := (reverseRange_holds d X Y h1 h2).1
theorem size_rotate (_lt : α → α → Bool) (d : Array α) (X Y Z : Nat) (h1 : X < Y) (h2 : Y < Z) (h3 : Z ≤ d.size) : (rotate d X Y Z).size = d.size := (rotate_spec d X Y Z h1 h2 h3).2.1
theorem size_breakPatterns (_lt : α → α → Bool) (d : Array α) (X Y : Nat) (h1 : X ≤ Y) (h2 : Y ≤ d.size) : (breakPatterns d X Y).size = d.size := (breakPatterns_holds d X Y h1 h2).1
theorem size_insertionSort (lt : α → α → Bool) (d : Array α) (X Y : Nat) (h1 : X ≤ Y) (h2 : Y ≤ d.size) : (insertionSort lt d X Y).size = d.size := (perm_insertionSort lt d X Y h1 h2).1
theorem size_heapSort (lt : α → α → Bool) (d : Array α) (X Y : Nat) (h1 : X ≤ Y) (h2 : Y ≤ d.size) : (heapSort lt d X Y).size = d.size := (perm_heapSort lt d X Y h1 h2).1
theorem size_siftDown' (lt : α → α → Bool) (d : Array α) (X Y Z : Nat) (h1 : X < Y) (h2 : Z + Y ≤ d.size) : (siftDown lt Y Z X d).size = d.size := (perm_siftDown lt d X Y Z h1 h2).1
theorem size_symMerge (lt : α → α → Bool) (d : Array α) (X Y Z : Nat) (h1 : X < Y) (h2 : Y < Z) (h3 : Z ≤ d.size) : (symMerge lt d X Y Z).size = d.size := (perm_symMerge lt d X Y Z h1 h2 h3).1
theorem size_stable (lt : α → α → Bool) (d : Array α) (X : Nat) (h1 : X ≤ d.size) : (stable lt d X).size = d.size := (perm_stable lt d X h1).1
theorem size_pdqsort (lt : α → α → Bool) (d : Array α) (X Y Z : Nat) (h1 : X ≤ Y) (h2 : Y ≤ d.size) (h3 : Z ≤ 64) : (pdq lt d X Y Z true true).size = d.size := (perm_pdqsort lt d X Y Z h1 h2 h3).1
theorem size_partition (lt : α → α → Bool) (d : Array α) (X Y Z : Nat) (h1 : X ≤ Y) (h2 : Y ≤ d.size) (h3 : X ≤ Z) (h4 : Z < Y) : (partition lt d X Y Z).2.2.size = d.size := (perm_partition lt d X Y Z h1 h2 h3 h4).1
theorem size_partitionEqual (lt : α → α → Bool) (d : Array α) (X Y Z : Nat) (h1 : X ≤ Y) (h2 : Y ≤ d.size) (h3 : X ≤ Z) (h4 : Z < Y) : (partitionEqual lt d X Y Z).2.size = d.size := (perm_partitionEqual lt d X Y Z h1 h2 h3 h4).1
theorem size_partialInsertionSort (lt : α → α → Bool) (d : Array α) (X Y : Nat) (h1 : X < Y) (h2 : Y ≤ d.size) : (partialInsertionSort lt d X Y).1.size = d.size := (perm_partialInsertionSort lt d X Y h1 h2).1
end
/-- A truth value as a number. -/
def flagN (b : Bool) : Int := if b then 1 else 0
theorem ltC_bare (o : Ordr) (h : o.kind = 0) (x y : Int) : ltC (cfO o) (x, 0) (y, 0) = ltInt x y := by
  unfold ltC ltInt cfO
  simp only [h]
  simp [sg]
  by_cases h1 : x < y
  · simp [h1]
  · by_cases h2 : y < x <;> simp [h1, h2]
end Go.Proofs.YtglgmkikegbchaaGreat
