/- SortFunc of twelve elements or fewer. -/
import Derived.Test.YtglgmkikegbchaaWcInsertionSort
import Derived.Test.YtglgmkikegbchaaLen
namespace Go.Proofs.Ytglgmkikegbchaa
open Go.RowKit Go.Sort

set_option maxHeartbeats 2000000 in
set_option maxRecDepth 1000000 in
theorem pdqSmall_c (O : Value) (cf : It → It → Int) (hC : CmpC O cf) (w0 : World) (blk off cap n : Nat) (d : Array It) (w : World) (S : St2 w0 blk off d w) (hn : d.size = n) (hsz : n < 4611686018427387904) (a b : Nat) (limit : Int) (hab : a ≤ b) (hb : b ≤ n) (h12 : b - a ≤ 12) :
    Calls Try.prog 76 #[.slice (some ⟨blk, off, none⟩) n cap, .int .i64 a, .int .i64 b, .int .i64 limit, .func (.func 36) #[O] #[]] w fun e w' =>
      e = .returned (.tuple #[]) ∧ St2 w0 blk off (insertionSort (ltC cf) d a b) w' := by
  have hc := insertionSort_c O cf hC w0 blk off cap n d w S hn hsz a b hab hb
  have h12z : (b : Int) - (a : Int) ≤ 12 := by omega
  clear S hC
  go_enter Try.func76, Try.ntmps76
  go_wp2
  refine wp_loop_rounds 1 ?_
  rw [rounds_succ]
  go_wp2_with fail
  refine hc.mono ?_
  rintro e w' ⟨rfl, h⟩
  go_wp2_with fail
  (try simp only [Exit.inBlock, Exit.then]); refine bodyPost_ret (results_none rfl _ _ _) rfl ?_
  exact ⟨rfl, h⟩

set_option maxHeartbeats 2000000 in
set_option maxRecDepth 1000000 in
theorem sortFuncSmall_c (O : Value) (cf : It → It → Int) (hC : CmpC O cf) (w0 : World) (blk off cap n : Nat) (d : Array It) (w : World) (S : St2 w0 blk off d w) (hn : d.size = n) (h12 : n ≤ 12) :
    Calls Try.prog 35 #[.slice (some ⟨blk, off, none⟩) n cap, .func (.func 36) #[O] #[]] w fun e w' =>
      e = .returned (.tuple #[]) ∧ St2 w0 blk off (insertionSort (ltC cf) d 0 n) w' := by
  have hc := fun lim => pdqSmall_c O cf hC w0 blk off cap n d w S hn (by omega) 0 n lim (Nat.zero_le _) (Nat.le_refl _) (by omega)
  have hl := bits_Len (n : Int) w (by omega) (by omega)
  have hw : IntKind.u64.wrap (n : Int) = (n : Int) := by rw [IntKind.wrap_u64]; omega
  clear S hC
  go_enter Try.func35, Try.ntmps35
  go_wp2_with fail
  refine hl.mono ?_
  rintro e w' ⟨rfl, rfl⟩
  go_wp2_with fail
  refine (hc _).mono ?_
  rintro e w' ⟨rfl, h⟩
  go_wp2_with fail
  go_end0
  exact ⟨rfl, h⟩
end Go.Proofs.Ytglgmkikegbchaa
