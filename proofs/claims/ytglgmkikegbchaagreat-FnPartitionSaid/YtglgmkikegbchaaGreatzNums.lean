/- Numbers that are told: a truth value as a number; a row of numbers that is new. -/
import Derived.Test.YtglgmkikegbchaaGreatzPerm
import Derived.Test.YtglgmkikegbchaaGreatzInnerC
namespace Go.Proofs.YtglgmkikegbchaaGreat
open Go.RowKit Go.Sort

theorem flag_calls (b : Bool) (w : World) : Calls Tryz.prog 66 #[.bool b] w fun e w' => e = .returned (.int .i64 (flagN b)) ∧ w' = w := by
  cases b
  · go_enter Tryz.func66, Tryz.ntmps66
    go_wp2
    go_ret
    exact ⟨rfl, rfl⟩
  · go_enter Tryz.func66, Tryz.ntmps66
    go_wp2
    go_ret
    exact ⟨rfl, rfl⟩

theorem nums_new (W V : World) (nums : Array Int) (cells : Array Value) (t : TypeId) (h : cells = nums.map (Value.int .i64)) (hs : W.heap.size ≤ V.heap.size) :
    NumsAt W (V.alloc (.cells cells t)) (.slice (some ⟨V.heap.size, 0, none⟩) nums.size nums.size) nums := by
  subst h
  have hb : (V.alloc (.cells (nums.map (Value.int .i64)) t)).heap[V.heap.size]? = some (.cells (nums.map (Value.int .i64)) t (0, 0)) := heap_alloc_new V _
  refine ⟨_, _, rfl, fun _ => ⟨_, 0, rfl, by simp, fun i hi => ?_⟩, fun blk off e _ => ?_⟩
  · rw [Nat.zero_add]
    exact cell_at hb (by rw [Array.getElem?_map, Array.getElem?_eq_getElem hi, getElem!_pos nums i hi]; rfl)
  · cases e
    exact hs
end Go.Proofs.YtglgmkikegbchaaGreat
