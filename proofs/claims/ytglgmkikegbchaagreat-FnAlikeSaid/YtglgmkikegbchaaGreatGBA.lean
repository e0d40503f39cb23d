/- Texts of this claim, laid together: zByHeapSort, zInHeapSort, zByInsertionSort, zInInsertionSort, zByPdqsort, zInPdqsort, zByReverseRange, zInReverseRange, zBySiftDown, zInSiftDown, zBySwapRange, zInSwapRange. -/
import Derived.Test.YtglgmkikegbchaaGreatGHB
import Derived.Test.YtglgmkikegbchaaGreatGBS
import Derived.StillTailTactics
import Derived.Test.YtglgmkikegbchaaGreatWcInsertionSort
import Derived.Test.YtglgmkikegbchaaGreatWfInsertionSort
import Derived.Test.YtglgmkikegbchaaGreatWoInsertionSort
import Derived.Test.YtglgmkikegbchaaGreatGWcPdqsort
import Derived.Test.YtglgmkikegbchaaGreatGWfPdqsort
import Derived.Test.YtglgmkikegbchaaGreatGWoPdqsort
import Derived.Test.YtglgmkikegbchaaGreatGWsPdqsort
import Derived.Test.YtglgmkikegbchaaGreatWcSwapRange
import Derived.Test.YtglgmkikegbchaaGreatWfSwapRange
import Derived.Test.YtglgmkikegbchaaGreatWoSwapRange
/- byCompare, byLess, byKeys: heapSort (printed by gen/by.py). -/
namespace Go.Proofs.YtglgmkikegbchaaGreat
open Go.RowKit Go.Sort

set_option maxHeartbeats 4000000 in
set_option maxRecDepth 1000000 in
theorem door_heapSort_c (O : Value) (cf : It → It → Int) (hC : CmpC O cf) (w0 : World) (blk off cap n : Nat) (d : Array It) (w : World) (S : St2 w0 blk off d w) (hn : d.size = n) (hsz : n < 4611686018427387904) (x y : Nat) (h1 : x ≤ y) (h2 : y ≤ n) :
    Calls Tryz.prog 63 #[.slice (some ⟨blk, off, none⟩) n cap, .int .i64 x, .int .i64 y, .func (.func 43) #[O] #[]] w fun e w' => e = .returned (.tuple #[]) ∧ St2 w0 blk off (heapSort (ltC cf) d x y) w' := by
  have hc := heapSort_c O cf hC w0 blk off cap n d w S hn hsz x y h1 h2
  clear S hC
  go_enter Tryz.func63, Tryz.ntmps63
  go_wp2_with fail
  refine hc.mono ?_
  rintro e w' ⟨rfl, h⟩
  go_wp2_with fail
  go_end0
  exact ⟨rfl, h⟩

set_option maxHeartbeats 4000000 in
set_option maxRecDepth 1000000 in
theorem by_heapSort_c (o : Ordr) (HO : CmpC (vOrd o) (cfO o)) (b cap n ncap : Nat) (na : Option Addr) (d : Array It) (x y : Nat) (hd : d.size = n) (hsz : n < 4611686018427387904) (h1 : x ≤ y) (h2 : y ≤ n) (W : World) (hb : b < W.heap.size) (hH : Holds2 W b 0 d) (hN : RdN W na #[(x : Int), (y : Int)]) :
    Calls Tryz.prog 42 #[.int .i64 2, .slice (some ⟨b, 0, none⟩) n cap, .func (.func 43) #[vOrd o] #[], .slice na 2 ncap] W fun e W' => ∃ nv, e = .returned nv ∧ St2 W b 0 (heapSort (ltC (cfO o)) d x y) W' ∧ NumsAt W W' nv #[] := by
  obtain ⟨U, hU⟩ : ∃ U, U = W.alloc (.cells #[.int .i64 0] 3) := ⟨_, rfl⟩
  have BU : Below W.heap.size W U := by rw [hU]; exact below_alloc _ _
  have SV : St2 W b 0 d U.drew := ⟨fun i hi => Holds2_of_block (BU.block b hb) hH i hi, Nat.lt_of_lt_of_le hb BU.size, by rw [hU]; exact (World.grownBy_alloc W _ _).trans ⟨rfl, rfl, rfl, Nat.le_refl _, fun _ _ _ => rfl⟩⟩
  have hc := door_heapSort_c (vOrd o) (cfO o) HO W b 0 cap n d U.drew SV hd hsz x y h1 h2
  obtain ⟨nb, noff, rfl, hnb, hnc⟩ := hN (by simp)
  have n0 := (BU.cell (p := ⟨nb, noff + 0, none⟩) hnb).trans (hnc 0 (by simp))
  have n1 := (BU.cell (p := ⟨nb, noff + 1, none⟩) hnb).trans (hnc 1 (by simp))
  simp at n0 n1
  have hU' : Aside _ := hU
  clear hnc SV BU hH hN hnb
  go_enter Tryz.func42, Tryz.ntmps42
  go_upto_region 8 with fail
  rw [← hU]
  clear hU
  go_still_tail 8, (by kernel_rfl)
  change wpList _ _ _ _ _ U.drew
  clear n0 n1 hU'
  generalize U.drew = V at hc ⊢
  go_wp2_with fail
  refine hc.mono ?_
  rintro e w' ⟨rfl, h⟩
  have SH : Aside _ := h
  clear h hc
  go_wp2_with fail
  go_ret
  exact ⟨_, rfl, SH.out, none, 0, rfl, fun h => absurd h (by simp), fun _ _ h => by cases h⟩

set_option maxHeartbeats 4000000 in
set_option maxRecDepth 1000000 in
theorem door_heapSort_f (T : TypeId) (rv : Value) (lt : It → It → Bool) (gl gs : Nat) (rl rs : Value) (w0 : World) (blk off n : Nat) (F : FaceOk T rv lt w0 blk off n gl gs rl rs) (d : Array It) (w : World) (S : St2 w0 blk off d w) (hn : d.size = n) (hsz : n < 4611686018427387904) (x y : Nat) (h1 : x ≤ y) (h2 : y ≤ n) :
    Calls Tryz.prog 82 #[.iface T rv, .int .i64 x, .int .i64 y] w fun e w' => e = .returned (.tuple #[]) ∧ St2 w0 blk off (heapSort lt d x y) w' := by
  have hc := heapSort_f T rv lt gl gs rl rs w0 blk off n F d w S hn hsz x y h1 h2
  clear S
  clear F
  go_enter Tryz.func82, Tryz.ntmps82
  go_wp2_with fail
  refine hc.mono ?_
  rintro e w' ⟨rfl, h⟩
  go_wp2_with fail
  go_end0
  exact ⟨rfl, h⟩

set_option maxHeartbeats 4000000 in
set_option maxRecDepth 1000000 in
theorem by_heapSort_f (o : Ordr) (HO : CmpC (vOrd o) (cfO o)) (b cap n ncap : Nat) (na : Option Addr) (d : Array It) (x y : Nat) (hd : d.size = n) (hsz : n < 4611686018427387904) (h1 : x ≤ y) (h2 : y ≤ n) (W : World) (hb : b < W.heap.size) (hH : Holds2 W b 0 d) (hN : RdN W na #[(x : Int), (y : Int)]) :
    Calls Tryz.prog 44 #[.int .i64 2, .agg #[.slice (some ⟨b, 0, none⟩) n cap, .int .i64 o.kind, .int .i64 o.shift, .int .u64 o.m0, .int .u64 o.m1, .int .u64 o.m2], .slice na 2 ncap] W fun e W' => ∃ nv, e = .returned nv ∧ St2 W b 0 (heapSort (ltC (cfO o)) d x y) W' ∧ NumsAt W W' nv #[] := by
  obtain ⟨k, s, m0, m1, m2⟩ := o
  obtain ⟨U, hU⟩ : ∃ U, U = (W.alloc (.cells #[.slice (some ⟨b, 0, none⟩) n cap, .int .i64 k, .int .i64 s, .int .u64 m0, .int .u64 m1, .int .u64 m2] 61)).alloc (.cells #[.int .i64 0] 3) := ⟨_, rfl⟩
  have BU : Below W.heap.size W U := by rw [hU]; exact Below.next (below_alloc _ _) (below_alloc _ _)
  have SV : St2 W b 0 d U.drew := ⟨fun i hi => Holds2_of_block (BU.block b hb) hH i hi, Nat.lt_of_lt_of_le hb BU.size, by rw [hU]; exact ((World.grownBy_alloc W _ _).trans (World.grownBy_alloc _ _ _)).trans ⟨rfl, rfl, rfl, Nat.le_refl _, fun _ _ _ => rfl⟩⟩
  have hc := door_heapSort_f 61 (vFace b cap n ⟨k, s, m0, m1, m2⟩) (ltC (cfO ⟨k, s, m0, m1, m2⟩)) 197 198 (vFace b cap n ⟨k, s, m0, m1, m2⟩) (vFace b cap n ⟨k, s, m0, m1, m2⟩) W b 0 n (face_ok ⟨k, s, m0, m1, m2⟩ HO W b cap n) d U.drew SV hd hsz x y h1 h2
  obtain ⟨nb, noff, rfl, hnb, hnc⟩ := hN (by simp)
  have n0 := (BU.cell (p := ⟨nb, noff + 0, none⟩) hnb).trans (hnc 0 (by simp))
  have n1 := (BU.cell (p := ⟨nb, noff + 1, none⟩) hnb).trans (hnc 1 (by simp))
  simp at n0 n1
  have hbox : U.heap[W.heap.size]? = some (.cells #[.slice (some ⟨b, 0, none⟩) n cap, .int .i64 k, .int .i64 s, .int .u64 m0, .int .u64 m1, .int .u64 m2] 61 (0, 0)) := by rw [hU]; exact (heap_alloc_old _ _ (by simp)).trans (heap_alloc_new _ _)
  have q0 := cell_at (i := 0) hbox rfl
  have q1 := cell_at (i := 1) hbox rfl
  have q2 := cell_at (i := 2) hbox rfl
  have q3 := cell_at (i := 3) hbox rfl
  have q4 := cell_at (i := 4) hbox rfl
  have q5 := cell_at (i := 5) hbox rfl
  clear hbox
  have hU' : Aside _ := hU
  clear hnc SV BU hH hN hnb
  go_enter Tryz.func44, Tryz.ntmps44
  go_upto_region 8 with fail
  rw [← hU]
  clear hU
  go_still_tail 8, (by kernel_rfl)
  change wpList _ _ _ _ _ U.drew
  clear n0 n1 q0 q1 q2 q3 q4 q5 hU'
  generalize U.drew = V at hc ⊢
  go_wp2_with fail
  refine hc.mono ?_
  rintro e w' ⟨rfl, h⟩
  have SH : Aside _ := h
  clear h hc
  go_wp2_with fail
  go_ret
  exact ⟨_, rfl, SH.out, none, 0, rfl, fun h => absurd h (by simp), fun _ _ h => by cases h⟩

set_option maxHeartbeats 4000000 in
set_option maxRecDepth 1000000 in
theorem door_heapSort_o (w0 : World) (blk off cap n : Nat) (d : Array Int) (w : World) (S : St1 e64 w0 blk off d w) (hn : d.size = n) (hsz : n < 4611686018427387904) (x y : Nat) (h1 : x ≤ y) (h2 : y ≤ n) :
    Calls Tryz.prog 99 #[.slice (some ⟨blk, off, none⟩) n cap, .int .i64 x, .int .i64 y] w fun e w' => e = .returned (.tuple #[]) ∧ St1 e64 w0 blk off (heapSort ltInt d x y) w' := by
  have hc := heapSort_o w0 blk off cap n d w S hn hsz x y h1 h2
  clear S
  go_enter Tryz.func99, Tryz.ntmps99
  go_wp2_with fail
  refine hc.mono ?_
  rintro e w' ⟨rfl, h⟩
  go_wp2_with fail
  go_end0
  exact ⟨rfl, h⟩

set_option maxHeartbeats 4000000 in
set_option maxRecDepth 1000000 in
theorem by_heapSort_o (b cap n ncap : Nat) (na : Option Addr) (d : Array Int) (x y : Nat) (hd : d.size = n) (hsz : n < 4611686018427387904) (h1 : x ≤ y) (h2 : y ≤ n) (W : World) (hb : b < W.heap.size) (hH : Holds e64 W b 0 d) (hN : RdN W na #[(x : Int), (y : Int)]) :
    Calls Tryz.prog 45 #[.int .i64 2, .slice (some ⟨b, 0, none⟩) n cap, .slice na 2 ncap] W fun e W' => ∃ nv, e = .returned nv ∧ St1 e64 W b 0 (heapSort ltInt d x y) W' ∧ NumsAt W W' nv #[] := by
  obtain ⟨U, hU⟩ : ∃ U, U = W.alloc (.cells #[.int .i64 0] 3) := ⟨_, rfl⟩
  have BU : Below W.heap.size W U := by rw [hU]; exact below_alloc _ _
  have SV : St1 e64 W b 0 d U.drew := ⟨fun i hi => ⟨(World.cell?_of_block (BU.block b hb)).trans (hH i hi).1, (World.frozen?_of_block (BU.block b hb)).trans (hH i hi).2⟩, Nat.lt_of_lt_of_le hb BU.size, by rw [hU]; exact (World.grownBy_alloc W _ _).trans ⟨rfl, rfl, rfl, Nat.le_refl _, fun _ _ _ => rfl⟩⟩
  have hc := door_heapSort_o W b 0 cap n d U.drew SV hd hsz x y h1 h2
  obtain ⟨nb, noff, rfl, hnb, hnc⟩ := hN (by simp)
  have n0 := (BU.cell (p := ⟨nb, noff + 0, none⟩) hnb).trans (hnc 0 (by simp))
  have n1 := (BU.cell (p := ⟨nb, noff + 1, none⟩) hnb).trans (hnc 1 (by simp))
  simp at n0 n1
  have hU' : Aside _ := hU
  clear hnc SV BU hH hN hnb
  go_enter Tryz.func45, Tryz.ntmps45
  go_upto_region 8 with fail
  rw [← hU]
  clear hU
  go_still_tail 7, (by kernel_rfl)
  change wpList _ _ _ _ _ U.drew
  clear n0 n1 hU'
  generalize U.drew = V at hc ⊢
  go_wp2_with fail
  refine hc.mono ?_
  rintro e w' ⟨rfl, h⟩
  have SH : Aside _ := h
  clear h hc
  go_wp2_with fail
  go_ret
  exact ⟨_, rfl, SH.out, none, 0, rfl, fun h => absurd h (by simp), fun _ _ h => by cases h⟩

end Go.Proofs.YtglgmkikegbchaaGreat

/- Inner of heapSort, whatever the text (printed by gen/law.py). -/
namespace Go.Proofs.YtglgmkikegbchaaGreat
open Go.RowKit Go.Sort

theorem inner_heapSort (t : Int) (a : Option Addr) (cap : Nat) (d : Array It) (o : Ordr) (na : Option Addr) (ncap : Nat) (X Y : Nat) (h1 : X ≤ Y) (h2 : Y ≤ d.size) (w : World) (h : Rd2 w a d) (hN : RdN w na #[(X : Int), (Y : Int)]) (hsz : d.size ≤ 2000) (hs0 : 0 ≤ o.shift) (hs1 : o.shift < 64) (ht : textB t d o = true) :
    Calls Tryz.prog 28 #[.int .i64 t, .int .i64 2, .slice a d.size cap, vOrd o, .slice na 2 ncap] w (InnerTo w (heapSort (ltC (cfO o)) d X Y) #[]) := by
  have HO := cmpC_of o hs0 hs1
  refine inner_any t 2 a cap d _ o na 2 ncap _ _ w h hN hsz (size_heapSort (ltC (cfO o)) d X Y h1 h2) ht many_2 (fun W b c hb hH hN => by_heapSort_c o HO b c d.size ncap na d X Y rfl (by omega) h1 h2 W hb hH hN) (fun W b c hb hH hN => by_heapSort_f o HO b c d.size ncap na d X Y rfl (by omega) h1 h2 W hb hH hN) (fun ek ks eb => ?_)
  subst eb
  rw [bare_size] at hsz h2
  have hl := ltC_bare o ek
  exact ⟨heapSort ltInt ks X Y, nat_heapSort (fun k => ((k, 0) : It)) rfl (ltC (cfO o)) ltInt hl ks X Y, fun W b c hb hH hN => by_heapSort_o b c ks.size ncap na ks X Y rfl (by omega) h1 h2 W hb hH hN⟩
end Go.Proofs.YtglgmkikegbchaaGreat

/- byCompare, byLess, byKeys: insertionSort (printed by gen/by.py). -/
namespace Go.Proofs.YtglgmkikegbchaaGreat
open Go.RowKit Go.Sort

set_option maxHeartbeats 4000000 in
set_option maxRecDepth 1000000 in
theorem door_insertionSort_c (O : Value) (cf : It → It → Int) (hC : CmpC O cf) (w0 : World) (blk off cap n : Nat) (d : Array It) (w : World) (S : St2 w0 blk off d w) (hn : d.size = n) (hsz : n < 4611686018427387904) (x y : Nat) (h1 : x ≤ y) (h2 : y ≤ n) :
    Calls Tryz.prog 61 #[.slice (some ⟨blk, off, none⟩) n cap, .int .i64 x, .int .i64 y, .func (.func 43) #[O] #[]] w fun e w' => e = .returned (.tuple #[]) ∧ St2 w0 blk off (insertionSort (ltC cf) d x y) w' := by
  have hc := insertionSort_c O cf hC w0 blk off cap n d w S hn hsz x y h1 h2
  clear S hC
  go_enter Tryz.func61, Tryz.ntmps61
  go_wp2_with fail
  refine hc.mono ?_
  rintro e w' ⟨rfl, h⟩
  go_wp2_with fail
  go_end0
  exact ⟨rfl, h⟩

set_option maxHeartbeats 4000000 in
set_option maxRecDepth 1000000 in
theorem by_insertionSort_c (o : Ordr) (HO : CmpC (vOrd o) (cfO o)) (b cap n ncap : Nat) (na : Option Addr) (d : Array It) (x y : Nat) (hd : d.size = n) (hsz : n < 4611686018427387904) (h1 : x ≤ y) (h2 : y ≤ n) (W : World) (hb : b < W.heap.size) (hH : Holds2 W b 0 d) (hN : RdN W na #[(x : Int), (y : Int)]) :
    Calls Tryz.prog 42 #[.int .i64 0, .slice (some ⟨b, 0, none⟩) n cap, .func (.func 43) #[vOrd o] #[], .slice na 2 ncap] W fun e W' => ∃ nv, e = .returned nv ∧ St2 W b 0 (insertionSort (ltC (cfO o)) d x y) W' ∧ NumsAt W W' nv #[] := by
  obtain ⟨U, hU⟩ : ∃ U, U = W.alloc (.cells #[.int .i64 0] 3) := ⟨_, rfl⟩
  have BU : Below W.heap.size W U := by rw [hU]; exact below_alloc _ _
  have SV : St2 W b 0 d U.drew := ⟨fun i hi => Holds2_of_block (BU.block b hb) hH i hi, Nat.lt_of_lt_of_le hb BU.size, by rw [hU]; exact (World.grownBy_alloc W _ _).trans ⟨rfl, rfl, rfl, Nat.le_refl _, fun _ _ _ => rfl⟩⟩
  have hc := door_insertionSort_c (vOrd o) (cfO o) HO W b 0 cap n d U.drew SV hd hsz x y h1 h2
  obtain ⟨nb, noff, rfl, hnb, hnc⟩ := hN (by simp)
  have n0 := (BU.cell (p := ⟨nb, noff + 0, none⟩) hnb).trans (hnc 0 (by simp))
  have n1 := (BU.cell (p := ⟨nb, noff + 1, none⟩) hnb).trans (hnc 1 (by simp))
  simp at n0 n1
  have hU' : Aside _ := hU
  clear hnc SV BU hH hN hnb
  go_enter Tryz.func42, Tryz.ntmps42
  go_upto_region 4 with fail
  rw [← hU]
  clear hU
  go_still_tail 8, (by kernel_rfl)
  change wpList _ _ _ _ _ U.drew
  clear n0 n1 hU'
  generalize U.drew = V at hc ⊢
  go_wp2_with fail
  refine hc.mono ?_
  rintro e w' ⟨rfl, h⟩
  have SH : Aside _ := h
  clear h hc
  go_wp2_with fail
  go_ret
  exact ⟨_, rfl, SH.out, none, 0, rfl, fun h => absurd h (by simp), fun _ _ h => by cases h⟩

set_option maxHeartbeats 4000000 in
set_option maxRecDepth 1000000 in
theorem door_insertionSort_f (T : TypeId) (rv : Value) (lt : It → It → Bool) (gl gs : Nat) (rl rs : Value) (w0 : World) (blk off n : Nat) (F : FaceOk T rv lt w0 blk off n gl gs rl rs) (d : Array It) (w : World) (S : St2 w0 blk off d w) (hn : d.size = n) (hsz : n < 4611686018427387904) (x y : Nat) (h1 : x ≤ y) (h2 : y ≤ n) :
    Calls Tryz.prog 80 #[.iface T rv, .int .i64 x, .int .i64 y] w fun e w' => e = .returned (.tuple #[]) ∧ St2 w0 blk off (insertionSort lt d x y) w' := by
  have hc := insertionSort_f T rv lt gl gs rl rs w0 blk off n F d w S hn hsz x y h1 h2
  clear S
  clear F
  go_enter Tryz.func80, Tryz.ntmps80
  go_wp2_with fail
  refine hc.mono ?_
  rintro e w' ⟨rfl, h⟩
  go_wp2_with fail
  go_end0
  exact ⟨rfl, h⟩

set_option maxHeartbeats 4000000 in
set_option maxRecDepth 1000000 in
theorem by_insertionSort_f (o : Ordr) (HO : CmpC (vOrd o) (cfO o)) (b cap n ncap : Nat) (na : Option Addr) (d : Array It) (x y : Nat) (hd : d.size = n) (hsz : n < 4611686018427387904) (h1 : x ≤ y) (h2 : y ≤ n) (W : World) (hb : b < W.heap.size) (hH : Holds2 W b 0 d) (hN : RdN W na #[(x : Int), (y : Int)]) :
    Calls Tryz.prog 44 #[.int .i64 0, .agg #[.slice (some ⟨b, 0, none⟩) n cap, .int .i64 o.kind, .int .i64 o.shift, .int .u64 o.m0, .int .u64 o.m1, .int .u64 o.m2], .slice na 2 ncap] W fun e W' => ∃ nv, e = .returned nv ∧ St2 W b 0 (insertionSort (ltC (cfO o)) d x y) W' ∧ NumsAt W W' nv #[] := by
  obtain ⟨k, s, m0, m1, m2⟩ := o
  obtain ⟨U, hU⟩ : ∃ U, U = (W.alloc (.cells #[.slice (some ⟨b, 0, none⟩) n cap, .int .i64 k, .int .i64 s, .int .u64 m0, .int .u64 m1, .int .u64 m2] 61)).alloc (.cells #[.int .i64 0] 3) := ⟨_, rfl⟩
  have BU : Below W.heap.size W U := by rw [hU]; exact Below.next (below_alloc _ _) (below_alloc _ _)
  have SV : St2 W b 0 d U.drew := ⟨fun i hi => Holds2_of_block (BU.block b hb) hH i hi, Nat.lt_of_lt_of_le hb BU.size, by rw [hU]; exact ((World.grownBy_alloc W _ _).trans (World.grownBy_alloc _ _ _)).trans ⟨rfl, rfl, rfl, Nat.le_refl _, fun _ _ _ => rfl⟩⟩
  have hc := door_insertionSort_f 61 (vFace b cap n ⟨k, s, m0, m1, m2⟩) (ltC (cfO ⟨k, s, m0, m1, m2⟩)) 197 198 (vFace b cap n ⟨k, s, m0, m1, m2⟩) (vFace b cap n ⟨k, s, m0, m1, m2⟩) W b 0 n (face_ok ⟨k, s, m0, m1, m2⟩ HO W b cap n) d U.drew SV hd hsz x y h1 h2
  obtain ⟨nb, noff, rfl, hnb, hnc⟩ := hN (by simp)
  have n0 := (BU.cell (p := ⟨nb, noff + 0, none⟩) hnb).trans (hnc 0 (by simp))
  have n1 := (BU.cell (p := ⟨nb, noff + 1, none⟩) hnb).trans (hnc 1 (by simp))
  simp at n0 n1
  have hbox : U.heap[W.heap.size]? = some (.cells #[.slice (some ⟨b, 0, none⟩) n cap, .int .i64 k, .int .i64 s, .int .u64 m0, .int .u64 m1, .int .u64 m2] 61 (0, 0)) := by rw [hU]; exact (heap_alloc_old _ _ (by simp)).trans (heap_alloc_new _ _)
  have q0 := cell_at (i := 0) hbox rfl
  have q1 := cell_at (i := 1) hbox rfl
  have q2 := cell_at (i := 2) hbox rfl
  have q3 := cell_at (i := 3) hbox rfl
  have q4 := cell_at (i := 4) hbox rfl
  have q5 := cell_at (i := 5) hbox rfl
  clear hbox
  have hU' : Aside _ := hU
  clear hnc SV BU hH hN hnb
  go_enter Tryz.func44, Tryz.ntmps44
  go_upto_region 4 with fail
  rw [← hU]
  clear hU
  go_still_tail 8, (by kernel_rfl)
  change wpList _ _ _ _ _ U.drew
  clear n0 n1 q0 q1 q2 q3 q4 q5 hU'
  generalize U.drew = V at hc ⊢
  go_wp2_with fail
  refine hc.mono ?_
  rintro e w' ⟨rfl, h⟩
  have SH : Aside _ := h
  clear h hc
  go_wp2_with fail
  go_ret
  exact ⟨_, rfl, SH.out, none, 0, rfl, fun h => absurd h (by simp), fun _ _ h => by cases h⟩

set_option maxHeartbeats 4000000 in
set_option maxRecDepth 1000000 in
theorem door_insertionSort_o (w0 : World) (blk off cap n : Nat) (d : Array Int) (w : World) (S : St1 e64 w0 blk off d w) (hn : d.size = n) (hsz : n < 4611686018427387904) (x y : Nat) (h1 : x ≤ y) (h2 : y ≤ n) :
    Calls Tryz.prog 97 #[.slice (some ⟨blk, off, none⟩) n cap, .int .i64 x, .int .i64 y] w fun e w' => e = .returned (.tuple #[]) ∧ St1 e64 w0 blk off (insertionSort ltInt d x y) w' := by
  have hc := insertionSort_o w0 blk off cap n d w S hn hsz x y h1 h2
  clear S
  go_enter Tryz.func97, Tryz.ntmps97
  go_wp2_with fail
  refine hc.mono ?_
  rintro e w' ⟨rfl, h⟩
  go_wp2_with fail
  go_end0
  exact ⟨rfl, h⟩

set_option maxHeartbeats 4000000 in
set_option maxRecDepth 1000000 in
theorem by_insertionSort_o (b cap n ncap : Nat) (na : Option Addr) (d : Array Int) (x y : Nat) (hd : d.size = n) (hsz : n < 4611686018427387904) (h1 : x ≤ y) (h2 : y ≤ n) (W : World) (hb : b < W.heap.size) (hH : Holds e64 W b 0 d) (hN : RdN W na #[(x : Int), (y : Int)]) :
    Calls Tryz.prog 45 #[.int .i64 0, .slice (some ⟨b, 0, none⟩) n cap, .slice na 2 ncap] W fun e W' => ∃ nv, e = .returned nv ∧ St1 e64 W b 0 (insertionSort ltInt d x y) W' ∧ NumsAt W W' nv #[] := by
  obtain ⟨U, hU⟩ : ∃ U, U = W.alloc (.cells #[.int .i64 0] 3) := ⟨_, rfl⟩
  have BU : Below W.heap.size W U := by rw [hU]; exact below_alloc _ _
  have SV : St1 e64 W b 0 d U.drew := ⟨fun i hi => ⟨(World.cell?_of_block (BU.block b hb)).trans (hH i hi).1, (World.frozen?_of_block (BU.block b hb)).trans (hH i hi).2⟩, Nat.lt_of_lt_of_le hb BU.size, by rw [hU]; exact (World.grownBy_alloc W _ _).trans ⟨rfl, rfl, rfl, Nat.le_refl _, fun _ _ _ => rfl⟩⟩
  have hc := door_insertionSort_o W b 0 cap n d U.drew SV hd hsz x y h1 h2
  obtain ⟨nb, noff, rfl, hnb, hnc⟩ := hN (by simp)
  have n0 := (BU.cell (p := ⟨nb, noff + 0, none⟩) hnb).trans (hnc 0 (by simp))
  have n1 := (BU.cell (p := ⟨nb, noff + 1, none⟩) hnb).trans (hnc 1 (by simp))
  simp at n0 n1
  have hU' : Aside _ := hU
  clear hnc SV BU hH hN hnb
  go_enter Tryz.func45, Tryz.ntmps45
  go_upto_region 4 with fail
  rw [← hU]
  clear hU
  go_still_tail 7, (by kernel_rfl)
  change wpList _ _ _ _ _ U.drew
  clear n0 n1 hU'
  generalize U.drew = V at hc ⊢
  go_wp2_with fail
  refine hc.mono ?_
  rintro e w' ⟨rfl, h⟩
  have SH : Aside _ := h
  clear h hc
  go_wp2_with fail
  go_ret
  exact ⟨_, rfl, SH.out, none, 0, rfl, fun h => absurd h (by simp), fun _ _ h => by cases h⟩

end Go.Proofs.YtglgmkikegbchaaGreat

/- Inner of insertionSort, whatever the text (printed by gen/law.py). -/
namespace Go.Proofs.YtglgmkikegbchaaGreat
open Go.RowKit Go.Sort

theorem inner_insertionSort (t : Int) (a : Option Addr) (cap : Nat) (d : Array It) (o : Ordr) (na : Option Addr) (ncap : Nat) (X Y : Nat) (h1 : X ≤ Y) (h2 : Y ≤ d.size) (w : World) (h : Rd2 w a d) (hN : RdN w na #[(X : Int), (Y : Int)]) (hsz : d.size ≤ 2000) (hs0 : 0 ≤ o.shift) (hs1 : o.shift < 64) (ht : textB t d o = true) :
    Calls Tryz.prog 28 #[.int .i64 t, .int .i64 0, .slice a d.size cap, vOrd o, .slice na 2 ncap] w (InnerTo w (insertionSort (ltC (cfO o)) d X Y) #[]) := by
  have HO := cmpC_of o hs0 hs1
  refine inner_any t 0 a cap d _ o na 2 ncap _ _ w h hN hsz (size_insertionSort (ltC (cfO o)) d X Y h1 h2) ht many_0 (fun W b c hb hH hN => by_insertionSort_c o HO b c d.size ncap na d X Y rfl (by omega) h1 h2 W hb hH hN) (fun W b c hb hH hN => by_insertionSort_f o HO b c d.size ncap na d X Y rfl (by omega) h1 h2 W hb hH hN) (fun ek ks eb => ?_)
  subst eb
  rw [bare_size] at hsz h2
  have hl := ltC_bare o ek
  exact ⟨insertionSort ltInt ks X Y, nat_insertionSort (fun k => ((k, 0) : It)) rfl (ltC (cfO o)) ltInt hl ks X Y, fun W b c hb hH hN => by_insertionSort_o b c ks.size ncap na ks X Y rfl (by omega) h1 h2 W hb hH hN⟩
end Go.Proofs.YtglgmkikegbchaaGreat

/- byCompare, byLess, byKeys: pdqsort (printed by gen/by.py). -/
namespace Go.Proofs.YtglgmkikegbchaaGreat
open Go.RowKit Go.Sort

set_option maxHeartbeats 4000000 in
set_option maxRecDepth 1000000 in
theorem door_pdqsort_c (O : Value) (cf : It → It → Int) (hC : CmpC O cf) (w0 : World) (blk off cap n : Nat) (d : Array It) (w : World) (S : St2 w0 blk off d w) (hn : d.size = n) (hsz : n < 4611686018427387904) (x y z : Nat) (h1 : x ≤ y) (h2 : y ≤ n) (h3 : z ≤ 64) :
    Calls Tryz.prog 64 #[.slice (some ⟨blk, off, none⟩) n cap, .int .i64 x, .int .i64 y, .int .i64 z, .func (.func 43) #[O] #[]] w fun e w' => e = .returned (.tuple #[]) ∧ St2 w0 blk off (pdq (ltC cf) d x y z true true) w' := by
  have hc := pdqsort_c O cf hC w0 blk off cap n d w S hn hsz x y z h1 h2 (by omega)
  clear S hC
  go_enter Tryz.func64, Tryz.ntmps64
  go_wp2_with fail
  refine hc.mono ?_
  rintro e w' ⟨rfl, h⟩
  go_wp2_with fail
  go_end0
  exact ⟨rfl, h⟩

set_option maxHeartbeats 4000000 in
set_option maxRecDepth 1000000 in
theorem by_pdqsort_c (o : Ordr) (HO : CmpC (vOrd o) (cfO o)) (b cap n ncap : Nat) (na : Option Addr) (d : Array It) (x y z : Nat) (hd : d.size = n) (hsz : n < 4611686018427387904) (h1 : x ≤ y) (h2 : y ≤ n) (h3 : z ≤ 64) (W : World) (hb : b < W.heap.size) (hH : Holds2 W b 0 d) (hN : RdN W na #[(x : Int), (y : Int), (z : Int)]) :
    Calls Tryz.prog 42 #[.int .i64 3, .slice (some ⟨b, 0, none⟩) n cap, .func (.func 43) #[vOrd o] #[], .slice na 3 ncap] W fun e W' => ∃ nv, e = .returned nv ∧ St2 W b 0 (pdq (ltC (cfO o)) d x y z true true) W' ∧ NumsAt W W' nv #[] := by
  obtain ⟨U, hU⟩ : ∃ U, U = W.alloc (.cells #[.int .i64 0] 3) := ⟨_, rfl⟩
  have BU : Below W.heap.size W U := by rw [hU]; exact below_alloc _ _
  have SV : St2 W b 0 d U.drew := ⟨fun i hi => Holds2_of_block (BU.block b hb) hH i hi, Nat.lt_of_lt_of_le hb BU.size, by rw [hU]; exact (World.grownBy_alloc W _ _).trans ⟨rfl, rfl, rfl, Nat.le_refl _, fun _ _ _ => rfl⟩⟩
  have hc := door_pdqsort_c (vOrd o) (cfO o) HO W b 0 cap n d U.drew SV hd hsz x y z h1 h2 h3
  obtain ⟨nb, noff, rfl, hnb, hnc⟩ := hN (by simp)
  have n0 := (BU.cell (p := ⟨nb, noff + 0, none⟩) hnb).trans (hnc 0 (by simp))
  have n1 := (BU.cell (p := ⟨nb, noff + 1, none⟩) hnb).trans (hnc 1 (by simp))
  have n2 := (BU.cell (p := ⟨nb, noff + 2, none⟩) hnb).trans (hnc 2 (by simp))
  simp at n0 n1 n2
  have hU' : Aside _ := hU
  clear hnc SV BU hH hN hnb
  go_enter Tryz.func42, Tryz.ntmps42
  go_upto_region 10 with fail
  rw [← hU]
  clear hU
  go_still_tail 11, (by kernel_rfl)
  change wpList _ _ _ _ _ U.drew
  clear n0 n1 n2 hU'
  generalize U.drew = V at hc ⊢
  go_wp2_with fail
  refine hc.mono ?_
  rintro e w' ⟨rfl, h⟩
  have SH : Aside _ := h
  clear h hc
  go_wp2_with fail
  go_ret
  exact ⟨_, rfl, SH.out, none, 0, rfl, fun h => absurd h (by simp), fun _ _ h => by cases h⟩

set_option maxHeartbeats 4000000 in
set_option maxRecDepth 1000000 in
theorem door_pdqsort_f (T : TypeId) (rv : Value) (lt : It → It → Bool) (gl gs : Nat) (rl rs : Value) (w0 : World) (blk off n : Nat) (F : FaceOk T rv lt w0 blk off n gl gs rl rs) (d : Array It) (w : World) (S : St2 w0 blk off d w) (hn : d.size = n) (hsz : n < 4611686018427387904) (x y z : Nat) (h1 : x ≤ y) (h2 : y ≤ n) (h3 : z ≤ 64) :
    Calls Tryz.prog 83 #[.iface T rv, .int .i64 x, .int .i64 y, .int .i64 z] w fun e w' => e = .returned (.tuple #[]) ∧ St2 w0 blk off (pdq lt d x y z true true) w' := by
  have hc := pdqsort_f T rv lt gl gs rl rs w0 blk off n F d w S hn hsz x y z h1 h2 (by omega)
  clear S
  clear F
  go_enter Tryz.func83, Tryz.ntmps83
  go_wp2_with fail
  refine hc.mono ?_
  rintro e w' ⟨rfl, h⟩
  go_wp2_with fail
  go_end0
  exact ⟨rfl, h⟩

set_option maxHeartbeats 4000000 in
set_option maxRecDepth 1000000 in
theorem by_pdqsort_f (o : Ordr) (HO : CmpC (vOrd o) (cfO o)) (b cap n ncap : Nat) (na : Option Addr) (d : Array It) (x y z : Nat) (hd : d.size = n) (hsz : n < 4611686018427387904) (h1 : x ≤ y) (h2 : y ≤ n) (h3 : z ≤ 64) (W : World) (hb : b < W.heap.size) (hH : Holds2 W b 0 d) (hN : RdN W na #[(x : Int), (y : Int), (z : Int)]) :
    Calls Tryz.prog 44 #[.int .i64 3, .agg #[.slice (some ⟨b, 0, none⟩) n cap, .int .i64 o.kind, .int .i64 o.shift, .int .u64 o.m0, .int .u64 o.m1, .int .u64 o.m2], .slice na 3 ncap] W fun e W' => ∃ nv, e = .returned nv ∧ St2 W b 0 (pdq (ltC (cfO o)) d x y z true true) W' ∧ NumsAt W W' nv #[] := by
  obtain ⟨k, s, m0, m1, m2⟩ := o
  obtain ⟨U, hU⟩ : ∃ U, U = (W.alloc (.cells #[.slice (some ⟨b, 0, none⟩) n cap, .int .i64 k, .int .i64 s, .int .u64 m0, .int .u64 m1, .int .u64 m2] 61)).alloc (.cells #[.int .i64 0] 3) := ⟨_, rfl⟩
  have BU : Below W.heap.size W U := by rw [hU]; exact Below.next (below_alloc _ _) (below_alloc _ _)
  have SV : St2 W b 0 d U.drew := ⟨fun i hi => Holds2_of_block (BU.block b hb) hH i hi, Nat.lt_of_lt_of_le hb BU.size, by rw [hU]; exact ((World.grownBy_alloc W _ _).trans (World.grownBy_alloc _ _ _)).trans ⟨rfl, rfl, rfl, Nat.le_refl _, fun _ _ _ => rfl⟩⟩
  have hc := door_pdqsort_f 61 (vFace b cap n ⟨k, s, m0, m1, m2⟩) (ltC (cfO ⟨k, s, m0, m1, m2⟩)) 197 198 (vFace b cap n ⟨k, s, m0, m1, m2⟩) (vFace b cap n ⟨k, s, m0, m1, m2⟩) W b 0 n (face_ok ⟨k, s, m0, m1, m2⟩ HO W b cap n) d U.drew SV hd hsz x y z h1 h2 h3
  obtain ⟨nb, noff, rfl, hnb, hnc⟩ := hN (by simp)
  have n0 := (BU.cell (p := ⟨nb, noff + 0, none⟩) hnb).trans (hnc 0 (by simp))
  have n1 := (BU.cell (p := ⟨nb, noff + 1, none⟩) hnb).trans (hnc 1 (by simp))
  have n2 := (BU.cell (p := ⟨nb, noff + 2, none⟩) hnb).trans (hnc 2 (by simp))
  simp at n0 n1 n2
  have hbox : U.heap[W.heap.size]? = some (.cells #[.slice (some ⟨b, 0, none⟩) n cap, .int .i64 k, .int .i64 s, .int .u64 m0, .int .u64 m1, .int .u64 m2] 61 (0, 0)) := by rw [hU]; exact (heap_alloc_old _ _ (by simp)).trans (heap_alloc_new _ _)
  have q0 := cell_at (i := 0) hbox rfl
  have q1 := cell_at (i := 1) hbox rfl
  have q2 := cell_at (i := 2) hbox rfl
  have q3 := cell_at (i := 3) hbox rfl
  have q4 := cell_at (i := 4) hbox rfl
  have q5 := cell_at (i := 5) hbox rfl
  clear hbox
  have hU' : Aside _ := hU
  clear hnc SV BU hH hN hnb
  go_enter Tryz.func44, Tryz.ntmps44
  go_upto_region 10 with fail
  rw [← hU]
  clear hU
  go_still_tail 11, (by kernel_rfl)
  change wpList _ _ _ _ _ U.drew
  clear n0 n1 n2 q0 q1 q2 q3 q4 q5 hU'
  generalize U.drew = V at hc ⊢
  go_wp2_with fail
  refine hc.mono ?_
  rintro e w' ⟨rfl, h⟩
  have SH : Aside _ := h
  clear h hc
  go_wp2_with fail
  go_ret
  exact ⟨_, rfl, SH.out, none, 0, rfl, fun h => absurd h (by simp), fun _ _ h => by cases h⟩

set_option maxHeartbeats 4000000 in
set_option maxRecDepth 1000000 in
theorem door_pdqsort_o (w0 : World) (blk off cap n : Nat) (d : Array Int) (w : World) (S : St1 e64 w0 blk off d w) (hn : d.size = n) (hsz : n < 4611686018427387904) (x y z : Nat) (h1 : x ≤ y) (h2 : y ≤ n) (h3 : z ≤ 64) :
    Calls Tryz.prog 100 #[.slice (some ⟨blk, off, none⟩) n cap, .int .i64 x, .int .i64 y, .int .i64 z] w fun e w' => e = .returned (.tuple #[]) ∧ St1 e64 w0 blk off (pdq ltInt d x y z true true) w' := by
  have hc := pdqsort_o w0 blk off cap n d w S hn hsz x y z h1 h2 (by omega)
  clear S
  go_enter Tryz.func100, Tryz.ntmps100
  go_wp2_with fail
  refine hc.mono ?_
  rintro e w' ⟨rfl, h⟩
  go_wp2_with fail
  go_end0
  exact ⟨rfl, h⟩

set_option maxHeartbeats 4000000 in
set_option maxRecDepth 1000000 in
theorem by_pdqsort_o (b cap n ncap : Nat) (na : Option Addr) (d : Array Int) (x y z : Nat) (hd : d.size = n) (hsz : n < 4611686018427387904) (h1 : x ≤ y) (h2 : y ≤ n) (h3 : z ≤ 64) (W : World) (hb : b < W.heap.size) (hH : Holds e64 W b 0 d) (hN : RdN W na #[(x : Int), (y : Int), (z : Int)]) :
    Calls Tryz.prog 45 #[.int .i64 3, .slice (some ⟨b, 0, none⟩) n cap, .slice na 3 ncap] W fun e W' => ∃ nv, e = .returned nv ∧ St1 e64 W b 0 (pdq ltInt d x y z true true) W' ∧ NumsAt W W' nv #[] := by
  obtain ⟨U, hU⟩ : ∃ U, U = W.alloc (.cells #[.int .i64 0] 3) := ⟨_, rfl⟩
  have BU : Below W.heap.size W U := by rw [hU]; exact below_alloc _ _
  have SV : St1 e64 W b 0 d U.drew := ⟨fun i hi => ⟨(World.cell?_of_block (BU.block b hb)).trans (hH i hi).1, (World.frozen?_of_block (BU.block b hb)).trans (hH i hi).2⟩, Nat.lt_of_lt_of_le hb BU.size, by rw [hU]; exact (World.grownBy_alloc W _ _).trans ⟨rfl, rfl, rfl, Nat.le_refl _, fun _ _ _ => rfl⟩⟩
  have hc := door_pdqsort_o W b 0 cap n d U.drew SV hd hsz x y z h1 h2 h3
  obtain ⟨nb, noff, rfl, hnb, hnc⟩ := hN (by simp)
  have n0 := (BU.cell (p := ⟨nb, noff + 0, none⟩) hnb).trans (hnc 0 (by simp))
  have n1 := (BU.cell (p := ⟨nb, noff + 1, none⟩) hnb).trans (hnc 1 (by simp))
  have n2 := (BU.cell (p := ⟨nb, noff + 2, none⟩) hnb).trans (hnc 2 (by simp))
  simp at n0 n1 n2
  have hU' : Aside _ := hU
  clear hnc SV BU hH hN hnb
  go_enter Tryz.func45, Tryz.ntmps45
  go_upto_region 10 with fail
  rw [← hU]
  clear hU
  go_still_tail 10, (by kernel_rfl)
  change wpList _ _ _ _ _ U.drew
  clear n0 n1 n2 hU'
  generalize U.drew = V at hc ⊢
  go_wp2_with fail
  refine hc.mono ?_
  rintro e w' ⟨rfl, h⟩
  have SH : Aside _ := h
  clear h hc
  go_wp2_with fail
  go_ret
  exact ⟨_, rfl, SH.out, none, 0, rfl, fun h => absurd h (by simp), fun _ _ h => by cases h⟩

end Go.Proofs.YtglgmkikegbchaaGreat

/- Inner of pdqsort, whatever the text (printed by gen/law.py). -/
namespace Go.Proofs.YtglgmkikegbchaaGreat
open Go.RowKit Go.Sort

theorem inner_pdqsort (t : Int) (a : Option Addr) (cap : Nat) (d : Array It) (o : Ordr) (na : Option Addr) (ncap : Nat) (X Y Z : Nat) (h1 : X ≤ Y) (h2 : Y ≤ d.size) (h3 : Z ≤ 64) (w : World) (h : Rd2 w a d) (hN : RdN w na #[(X : Int), (Y : Int), (Z : Int)]) (hsz : d.size ≤ 2000) (hs0 : 0 ≤ o.shift) (hs1 : o.shift < 64) (ht : textB t d o = true) :
    Calls Tryz.prog 28 #[.int .i64 t, .int .i64 3, .slice a d.size cap, vOrd o, .slice na 3 ncap] w (InnerTo w (pdq (ltC (cfO o)) d X Y Z true true) #[]) := by
  have HO := cmpC_of o hs0 hs1
  refine inner_any t 3 a cap d _ o na 3 ncap _ _ w h hN hsz (size_pdqsort (ltC (cfO o)) d X Y Z h1 h2 h3) ht many_3 (fun W b c hb hH hN => by_pdqsort_c o HO b c d.size ncap na d X Y Z rfl (by omega) h1 h2 h3 W hb hH hN) (fun W b c hb hH hN => by_pdqsort_f o HO b c d.size ncap na d X Y Z rfl (by omega) h1 h2 h3 W hb hH hN) (fun ek ks eb => ?_)
  subst eb
  rw [bare_size] at hsz h2
  have hl := ltC_bare o ek
  exact ⟨pdq ltInt ks X Y Z true true, nat_pdq (fun k => ((k, 0) : It)) rfl (ltC (cfO o)) ltInt hl _ ks X Y Z true true (Nat.le_refl _), fun W b c hb hH hN => by_pdqsort_o b c ks.size ncap na ks X Y Z rfl (by omega) h1 h2 h3 W hb hH hN⟩
end Go.Proofs.YtglgmkikegbchaaGreat

/- byCompare, byLess, byKeys: reverseRange (printed by gen/by.py). -/
namespace Go.Proofs.YtglgmkikegbchaaGreat
open Go.RowKit Go.Sort

set_option maxHeartbeats 4000000 in
set_option maxRecDepth 1000000 in
theorem door_reverseRange_c (O : Value) (cf : It → It → Int) (hC : CmpC O cf) (w0 : World) (blk off cap n : Nat) (d : Array It) (w : World) (S : St2 w0 blk off d w) (hn : d.size = n) (hsz : n < 4611686018427387904) (x y : Nat) (h1 : x ≤ y) (h2 : y ≤ n) :
    Calls Tryz.prog 74 #[.slice (some ⟨blk, off, none⟩) n cap, .int .i64 x, .int .i64 y, .func (.func 43) #[O] #[]] w fun e w' => e = .returned (.tuple #[]) ∧ St2 w0 blk off (reverseRange d x y) w' := by
  have hc := reverseRange_c O cf hC w0 blk off cap n d w S hn hsz x y h1 h2
  clear S hC
  go_enter Tryz.func74, Tryz.ntmps74
  go_wp2_with fail
  refine hc.mono ?_
  rintro e w' ⟨rfl, h⟩
  go_wp2_with fail
  go_end0
  exact ⟨rfl, h⟩

set_option maxHeartbeats 4000000 in
set_option maxRecDepth 1000000 in
theorem by_reverseRange_c (o : Ordr) (HO : CmpC (vOrd o) (cfO o)) (b cap n ncap : Nat) (na : Option Addr) (d : Array It) (x y : Nat) (hd : d.size = n) (hsz : n < 4611686018427387904) (h1 : x ≤ y) (h2 : y ≤ n) (W : World) (hb : b < W.heap.size) (hH : Holds2 W b 0 d) (hN : RdN W na #[(x : Int), (y : Int)]) :
    Calls Tryz.prog 42 #[.int .i64 12, .slice (some ⟨b, 0, none⟩) n cap, .func (.func 43) #[vOrd o] #[], .slice na 2 ncap] W fun e W' => ∃ nv, e = .returned nv ∧ St2 W b 0 (reverseRange d x y) W' ∧ NumsAt W W' nv #[] := by
  obtain ⟨U, hU⟩ : ∃ U, U = W.alloc (.cells #[.int .i64 0] 3) := ⟨_, rfl⟩
  have BU : Below W.heap.size W U := by rw [hU]; exact below_alloc _ _
  have SV : St2 W b 0 d U.drew := ⟨fun i hi => Holds2_of_block (BU.block b hb) hH i hi, Nat.lt_of_lt_of_le hb BU.size, by rw [hU]; exact (World.grownBy_alloc W _ _).trans ⟨rfl, rfl, rfl, Nat.le_refl _, fun _ _ _ => rfl⟩⟩
  have hc := door_reverseRange_c (vOrd o) (cfO o) HO W b 0 cap n d U.drew SV hd hsz x y h1 h2
  obtain ⟨nb, noff, rfl, hnb, hnc⟩ := hN (by simp)
  have n0 := (BU.cell (p := ⟨nb, noff + 0, none⟩) hnb).trans (hnc 0 (by simp))
  have n1 := (BU.cell (p := ⟨nb, noff + 1, none⟩) hnb).trans (hnc 1 (by simp))
  simp at n0 n1
  have hU' : Aside _ := hU
  clear hnc SV BU hH hN hnb
  go_enter Tryz.func42, Tryz.ntmps42
  go_upto_region 33 with fail
  rw [← hU]
  clear hU
  go_still_tail 8, (by kernel_rfl)
  change wpList _ _ _ _ _ U.drew
  clear n0 n1 hU'
  generalize U.drew = V at hc ⊢
  go_wp2_with fail
  refine hc.mono ?_
  rintro e w' ⟨rfl, h⟩
  have SH : Aside _ := h
  clear h hc
  go_wp2_with fail
  go_ret
  exact ⟨_, rfl, SH.out, none, 0, rfl, fun h => absurd h (by simp), fun _ _ h => by cases h⟩

set_option maxHeartbeats 4000000 in
set_option maxRecDepth 1000000 in
theorem door_reverseRange_f (T : TypeId) (rv : Value) (lt : It → It → Bool) (gl gs : Nat) (rl rs : Value) (w0 : World) (blk off n : Nat) (F : FaceOk T rv lt w0 blk off n gl gs rl rs) (d : Array It) (w : World) (S : St2 w0 blk off d w) (hn : d.size = n) (hsz : n < 4611686018427387904) (x y : Nat) (h1 : x ≤ y) (h2 : y ≤ n) :
    Calls Tryz.prog 92 #[.iface T rv, .int .i64 x, .int .i64 y] w fun e w' => e = .returned (.tuple #[]) ∧ St2 w0 blk off (reverseRange d x y) w' := by
  have hc := reverseRange_f T rv lt gl gs rl rs w0 blk off n F d w S hn hsz x y h1 h2
  clear S
  clear F
  go_enter Tryz.func92, Tryz.ntmps92
  go_wp2_with fail
  refine hc.mono ?_
  rintro e w' ⟨rfl, h⟩
  go_wp2_with fail
  go_end0
  exact ⟨rfl, h⟩

set_option maxHeartbeats 4000000 in
set_option maxRecDepth 1000000 in
theorem by_reverseRange_f (o : Ordr) (HO : CmpC (vOrd o) (cfO o)) (b cap n ncap : Nat) (na : Option Addr) (d : Array It) (x y : Nat) (hd : d.size = n) (hsz : n < 4611686018427387904) (h1 : x ≤ y) (h2 : y ≤ n) (W : World) (hb : b < W.heap.size) (hH : Holds2 W b 0 d) (hN : RdN W na #[(x : Int), (y : Int)]) :
    Calls Tryz.prog 44 #[.int .i64 12, .agg #[.slice (some ⟨b, 0, none⟩) n cap, .int .i64 o.kind, .int .i64 o.shift, .int .u64 o.m0, .int .u64 o.m1, .int .u64 o.m2], .slice na 2 ncap] W fun e W' => ∃ nv, e = .returned nv ∧ St2 W b 0 (reverseRange d x y) W' ∧ NumsAt W W' nv #[] := by
  obtain ⟨k, s, m0, m1, m2⟩ := o
  obtain ⟨U, hU⟩ : ∃ U, U = (W.alloc (.cells #[.slice (some ⟨b, 0, none⟩) n cap, .int .i64 k, .int .i64 s, .int .u64 m0, .int .u64 m1, .int .u64 m2] 61)).alloc (.cells #[.int .i64 0] 3) := ⟨_, rfl⟩
  have BU : Below W.heap.size W U := by rw [hU]; exact Below.next (below_alloc _ _) (below_alloc _ _)
  have SV : St2 W b 0 d U.drew := ⟨fun i hi => Holds2_of_block (BU.block b hb) hH i hi, Nat.lt_of_lt_of_le hb BU.size, by rw [hU]; exact ((World.grownBy_alloc W _ _).trans (World.grownBy_alloc _ _ _)).trans ⟨rfl, rfl, rfl, Nat.le_refl _, fun _ _ _ => rfl⟩⟩
  have hc := door_reverseRange_f 61 (vFace b cap n ⟨k, s, m0, m1, m2⟩) (ltC (cfO ⟨k, s, m0, m1, m2⟩)) 197 198 (vFace b cap n ⟨k, s, m0, m1, m2⟩) (vFace b cap n ⟨k, s, m0, m1, m2⟩) W b 0 n (face_ok ⟨k, s, m0, m1, m2⟩ HO W b cap n) d U.drew SV hd hsz x y h1 h2
  obtain ⟨nb, noff, rfl, hnb, hnc⟩ := hN (by simp)
  have n0 := (BU.cell (p := ⟨nb, noff + 0, none⟩) hnb).trans (hnc 0 (by simp))
  have n1 := (BU.cell (p := ⟨nb, noff + 1, none⟩) hnb).trans (hnc 1 (by simp))
  simp at n0 n1
  have hbox : U.heap[W.heap.size]? = some (.cells #[.slice (some ⟨b, 0, none⟩) n cap, .int .i64 k, .int .i64 s, .int .u64 m0, .int .u64 m1, .int .u64 m2] 61 (0, 0)) := by rw [hU]; exact (heap_alloc_old _ _ (by simp)).trans (heap_alloc_new _ _)
  have q0 := cell_at (i := 0) hbox rfl
  have q1 := cell_at (i := 1) hbox rfl
  have q2 := cell_at (i := 2) hbox rfl
  have q3 := cell_at (i := 3) hbox rfl
  have q4 := cell_at (i := 4) hbox rfl
  have q5 := cell_at (i := 5) hbox rfl
  clear hbox
  have hU' : Aside _ := hU
  clear hnc SV BU hH hN hnb
  go_enter Tryz.func44, Tryz.ntmps44
  go_upto_region 33 with fail
  rw [← hU]
  clear hU
  go_still_tail 8, (by kernel_rfl)
  change wpList _ _ _ _ _ U.drew
  clear n0 n1 q0 q1 q2 q3 q4 q5 hU'
  generalize U.drew = V at hc ⊢
  go_wp2_with fail
  refine hc.mono ?_
  rintro e w' ⟨rfl, h⟩
  have SH : Aside _ := h
  clear h hc
  go_wp2_with fail
  go_ret
  exact ⟨_, rfl, SH.out, none, 0, rfl, fun h => absurd h (by simp), fun _ _ h => by cases h⟩

set_option maxHeartbeats 4000000 in
set_option maxRecDepth 1000000 in
theorem door_reverseRange_o (w0 : World) (blk off cap n : Nat) (d : Array Int) (w : World) (S : St1 e64 w0 blk off d w) (hn : d.size = n) (hsz : n < 4611686018427387904) (x y : Nat) (h1 : x ≤ y) (h2 : y ≤ n) :
    Calls Tryz.prog 109 #[.slice (some ⟨blk, off, none⟩) n cap, .int .i64 x, .int .i64 y] w fun e w' => e = .returned (.tuple #[]) ∧ St1 e64 w0 blk off (reverseRange d x y) w' := by
  have hc := reverseRange_o w0 blk off cap n d w S hn hsz x y h1 h2
  clear S
  go_enter Tryz.func109, Tryz.ntmps109
  go_wp2_with fail
  refine hc.mono ?_
  rintro e w' ⟨rfl, h⟩
  go_wp2_with fail
  go_end0
  exact ⟨rfl, h⟩

set_option maxHeartbeats 4000000 in
set_option maxRecDepth 1000000 in
theorem by_reverseRange_o (b cap n ncap : Nat) (na : Option Addr) (d : Array Int) (x y : Nat) (hd : d.size = n) (hsz : n < 4611686018427387904) (h1 : x ≤ y) (h2 : y ≤ n) (W : World) (hb : b < W.heap.size) (hH : Holds e64 W b 0 d) (hN : RdN W na #[(x : Int), (y : Int)]) :
    Calls Tryz.prog 45 #[.int .i64 12, .slice (some ⟨b, 0, none⟩) n cap, .slice na 2 ncap] W fun e W' => ∃ nv, e = .returned nv ∧ St1 e64 W b 0 (reverseRange d x y) W' ∧ NumsAt W W' nv #[] := by
  obtain ⟨U, hU⟩ : ∃ U, U = W.alloc (.cells #[.int .i64 0] 3) := ⟨_, rfl⟩
  have BU : Below W.heap.size W U := by rw [hU]; exact below_alloc _ _
  have SV : St1 e64 W b 0 d U.drew := ⟨fun i hi => ⟨(World.cell?_of_block (BU.block b hb)).trans (hH i hi).1, (World.frozen?_of_block (BU.block b hb)).trans (hH i hi).2⟩, Nat.lt_of_lt_of_le hb BU.size, by rw [hU]; exact (World.grownBy_alloc W _ _).trans ⟨rfl, rfl, rfl, Nat.le_refl _, fun _ _ _ => rfl⟩⟩
  have hc := door_reverseRange_o W b 0 cap n d U.drew SV hd hsz x y h1 h2
  obtain ⟨nb, noff, rfl, hnb, hnc⟩ := hN (by simp)
  have n0 := (BU.cell (p := ⟨nb, noff + 0, none⟩) hnb).trans (hnc 0 (by simp))
  have n1 := (BU.cell (p := ⟨nb, noff + 1, none⟩) hnb).trans (hnc 1 (by simp))
  simp at n0 n1
  have hU' : Aside _ := hU
  clear hnc SV BU hH hN hnb
  go_enter Tryz.func45, Tryz.ntmps45
  go_upto_region 33 with fail
  rw [← hU]
  clear hU
  go_still_tail 7, (by kernel_rfl)
  change wpList _ _ _ _ _ U.drew
  clear n0 n1 hU'
  generalize U.drew = V at hc ⊢
  go_wp2_with fail
  refine hc.mono ?_
  rintro e w' ⟨rfl, h⟩
  have SH : Aside _ := h
  clear h hc
  go_wp2_with fail
  go_ret
  exact ⟨_, rfl, SH.out, none, 0, rfl, fun h => absurd h (by simp), fun _ _ h => by cases h⟩

end Go.Proofs.YtglgmkikegbchaaGreat

/- Inner of reverseRange, whatever the text (printed by gen/law.py). -/
namespace Go.Proofs.YtglgmkikegbchaaGreat
open Go.RowKit Go.Sort

theorem inner_reverseRange (t : Int) (a : Option Addr) (cap : Nat) (d : Array It) (o : Ordr) (na : Option Addr) (ncap : Nat) (X Y : Nat) (h1 : X ≤ Y) (h2 : Y ≤ d.size) (w : World) (h : Rd2 w a d) (hN : RdN w na #[(X : Int), (Y : Int)]) (hsz : d.size ≤ 2000) (hs0 : 0 ≤ o.shift) (hs1 : o.shift < 64) (ht : textB t d o = true) :
    Calls Tryz.prog 28 #[.int .i64 t, .int .i64 12, .slice a d.size cap, vOrd o, .slice na 2 ncap] w (InnerTo w (reverseRange d X Y) #[]) := by
  have HO := cmpC_of o hs0 hs1
  refine inner_any t 12 a cap d _ o na 2 ncap _ _ w h hN hsz (size_reverseRange (ltC (cfO o)) d X Y h1 h2) ht many_12 (fun W b c hb hH hN => by_reverseRange_c o HO b c d.size ncap na d X Y rfl (by omega) h1 h2 W hb hH hN) (fun W b c hb hH hN => by_reverseRange_f o HO b c d.size ncap na d X Y rfl (by omega) h1 h2 W hb hH hN) (fun ek ks eb => ?_)
  subst eb
  rw [bare_size] at hsz h2
  have hl := ltC_bare o ek
  exact ⟨reverseRange ks X Y, nat_reverseRange (fun k => ((k, 0) : It)) rfl ks X Y, fun W b c hb hH hN => by_reverseRange_o b c ks.size ncap na ks X Y rfl (by omega) h1 h2 W hb hH hN⟩
end Go.Proofs.YtglgmkikegbchaaGreat

/- byCompare, byLess, byKeys: siftDown (printed by gen/by.py). -/
namespace Go.Proofs.YtglgmkikegbchaaGreat
open Go.RowKit Go.Sort

set_option maxHeartbeats 4000000 in
set_option maxRecDepth 1000000 in
theorem door_siftDown_c (O : Value) (cf : It → It → Int) (hC : CmpC O cf) (w0 : World) (blk off cap n : Nat) (d : Array It) (w : World) (S : St2 w0 blk off d w) (hn : d.size = n) (hsz : n < 4611686018427387904) (x y z : Nat) (h1 : x < y) (h2 : z + y ≤ n) :
    Calls Tryz.prog 62 #[.slice (some ⟨blk, off, none⟩) n cap, .int .i64 x, .int .i64 y, .int .i64 z, .func (.func 43) #[O] #[]] w fun e w' => e = .returned (.tuple #[]) ∧ St2 w0 blk off (siftDown (ltC cf) y z x d) w' := by
  have hc := siftDown_c O cf hC w0 blk off cap n d w S hn hsz x y z (by omega) h2
  clear S hC
  go_enter Tryz.func62, Tryz.ntmps62
  go_wp2_with fail
  refine hc.mono ?_
  rintro e w' ⟨rfl, h⟩
  go_wp2_with fail
  go_end0
  exact ⟨rfl, h⟩

set_option maxHeartbeats 4000000 in
set_option maxRecDepth 1000000 in
theorem by_siftDown_c (o : Ordr) (HO : CmpC (vOrd o) (cfO o)) (b cap n ncap : Nat) (na : Option Addr) (d : Array It) (x y z : Nat) (hd : d.size = n) (hsz : n < 4611686018427387904) (h1 : x < y) (h2 : z + y ≤ n) (W : World) (hb : b < W.heap.size) (hH : Holds2 W b 0 d) (hN : RdN W na #[(x : Int), (y : Int), (z : Int)]) :
    Calls Tryz.prog 42 #[.int .i64 1, .slice (some ⟨b, 0, none⟩) n cap, .func (.func 43) #[vOrd o] #[], .slice na 3 ncap] W fun e W' => ∃ nv, e = .returned nv ∧ St2 W b 0 (siftDown (ltC (cfO o)) y z x d) W' ∧ NumsAt W W' nv #[] := by
  obtain ⟨U, hU⟩ : ∃ U, U = W.alloc (.cells #[.int .i64 0] 3) := ⟨_, rfl⟩
  have BU : Below W.heap.size W U := by rw [hU]; exact below_alloc _ _
  have SV : St2 W b 0 d U.drew := ⟨fun i hi => Holds2_of_block (BU.block b hb) hH i hi, Nat.lt_of_lt_of_le hb BU.size, by rw [hU]; exact (World.grownBy_alloc W _ _).trans ⟨rfl, rfl, rfl, Nat.le_refl _, fun _ _ _ => rfl⟩⟩
  have hc := door_siftDown_c (vOrd o) (cfO o) HO W b 0 cap n d U.drew SV hd hsz x y z (by omega) h2
  obtain ⟨nb, noff, rfl, hnb, hnc⟩ := hN (by simp)
  have n0 := (BU.cell (p := ⟨nb, noff + 0, none⟩) hnb).trans (hnc 0 (by simp))
  have n1 := (BU.cell (p := ⟨nb, noff + 1, none⟩) hnb).trans (hnc 1 (by simp))
  have n2 := (BU.cell (p := ⟨nb, noff + 2, none⟩) hnb).trans (hnc 2 (by simp))
  simp at n0 n1 n2
  have hU' : Aside _ := hU
  clear hnc SV BU hH hN hnb
  go_enter Tryz.func42, Tryz.ntmps42
  go_upto_region 6 with fail
  rw [← hU]
  clear hU
  go_still_tail 11, (by kernel_rfl)
  change wpList _ _ _ _ _ U.drew
  clear n0 n1 n2 hU'
  generalize U.drew = V at hc ⊢
  go_wp2_with fail
  refine hc.mono ?_
  rintro e w' ⟨rfl, h⟩
  have SH : Aside _ := h
  clear h hc
  go_wp2_with fail
  go_ret
  exact ⟨_, rfl, SH.out, none, 0, rfl, fun h => absurd h (by simp), fun _ _ h => by cases h⟩

set_option maxHeartbeats 4000000 in
set_option maxRecDepth 1000000 in
theorem door_siftDown_f (T : TypeId) (rv : Value) (lt : It → It → Bool) (gl gs : Nat) (rl rs : Value) (w0 : World) (blk off n : Nat) (F : FaceOk T rv lt w0 blk off n gl gs rl rs) (d : Array It) (w : World) (S : St2 w0 blk off d w) (hn : d.size = n) (hsz : n < 4611686018427387904) (x y z : Nat) (h1 : x < y) (h2 : z + y ≤ n) :
    Calls Tryz.prog 81 #[.iface T rv, .int .i64 x, .int .i64 y, .int .i64 z] w fun e w' => e = .returned (.tuple #[]) ∧ St2 w0 blk off (siftDown lt y z x d) w' := by
  have hc := siftDown_f T rv lt gl gs rl rs w0 blk off n F d w S hn hsz x y z (by omega) h2
  clear S
  clear F
  go_enter Tryz.func81, Tryz.ntmps81
  go_wp2_with fail
  refine hc.mono ?_
  rintro e w' ⟨rfl, h⟩
  go_wp2_with fail
  go_end0
  exact ⟨rfl, h⟩

set_option maxHeartbeats 4000000 in
set_option maxRecDepth 1000000 in
theorem by_siftDown_f (o : Ordr) (HO : CmpC (vOrd o) (cfO o)) (b cap n ncap : Nat) (na : Option Addr) (d : Array It) (x y z : Nat) (hd : d.size = n) (hsz : n < 4611686018427387904) (h1 : x < y) (h2 : z + y ≤ n) (W : World) (hb : b < W.heap.size) (hH : Holds2 W b 0 d) (hN : RdN W na #[(x : Int), (y : Int), (z : Int)]) :
    Calls Tryz.prog 44 #[.int .i64 1, .agg #[.slice (some ⟨b, 0, none⟩) n cap, .int .i64 o.kind, .int .i64 o.shift, .int .u64 o.m0, .int .u64 o.m1, .int .u64 o.m2], .slice na 3 ncap] W fun e W' => ∃ nv, e = .returned nv ∧ St2 W b 0 (siftDown (ltC (cfO o)) y z x d) W' ∧ NumsAt W W' nv #[] := by
  obtain ⟨k, s, m0, m1, m2⟩ := o
  obtain ⟨U, hU⟩ : ∃ U, U = (W.alloc (.cells #[.slice (some ⟨b, 0, none⟩) n cap, .int .i64 k, .int .i64 s, .int .u64 m0, .int .u64 m1, .int .u64 m2] 61)).alloc (.cells #[.int .i64 0] 3) := ⟨_, rfl⟩
  have BU : Below W.heap.size W U := by rw [hU]; exact Below.next (below_alloc _ _) (below_alloc _ _)
  have SV : St2 W b 0 d U.drew := ⟨fun i hi => Holds2_of_block (BU.block b hb) hH i hi, Nat.lt_of_lt_of_le hb BU.size, by rw [hU]; exact ((World.grownBy_alloc W _ _).trans (World.grownBy_alloc _ _ _)).trans ⟨rfl, rfl, rfl, Nat.le_refl _, fun _ _ _ => rfl⟩⟩
  have hc := door_siftDown_f 61 (vFace b cap n ⟨k, s, m0, m1, m2⟩) (ltC (cfO ⟨k, s, m0, m1, m2⟩)) 197 198 (vFace b cap n ⟨k, s, m0, m1, m2⟩) (vFace b cap n ⟨k, s, m0, m1, m2⟩) W b 0 n (face_ok ⟨k, s, m0, m1, m2⟩ HO W b cap n) d U.drew SV hd hsz x y z (by omega) h2
  obtain ⟨nb, noff, rfl, hnb, hnc⟩ := hN (by simp)
  have n0 := (BU.cell (p := ⟨nb, noff + 0, none⟩) hnb).trans (hnc 0 (by simp))
  have n1 := (BU.cell (p := ⟨nb, noff + 1, none⟩) hnb).trans (hnc 1 (by simp))
  have n2 := (BU.cell (p := ⟨nb, noff + 2, none⟩) hnb).trans (hnc 2 (by simp))
  simp at n0 n1 n2
  have hbox : U.heap[W.heap.size]? = some (.cells #[.slice (some ⟨b, 0, none⟩) n cap, .int .i64 k, .int .i64 s, .int .u64 m0, .int .u64 m1, .int .u64 m2] 61 (0, 0)) := by rw [hU]; exact (heap_alloc_old _ _ (by simp)).trans (heap_alloc_new _ _)
  have q0 := cell_at (i := 0) hbox rfl
  have q1 := cell_at (i := 1) hbox rfl
  have q2 := cell_at (i := 2) hbox rfl
  have q3 := cell_at (i := 3) hbox rfl
  have q4 := cell_at (i := 4) hbox rfl
  have q5 := cell_at (i := 5) hbox rfl
  clear hbox
  have hU' : Aside _ := hU
  clear hnc SV BU hH hN hnb
  go_enter Tryz.func44, Tryz.ntmps44
  go_upto_region 6 with fail
  rw [← hU]
  clear hU
  go_still_tail 11, (by kernel_rfl)
  change wpList _ _ _ _ _ U.drew
  clear n0 n1 n2 q0 q1 q2 q3 q4 q5 hU'
  generalize U.drew = V at hc ⊢
  go_wp2_with fail
  refine hc.mono ?_
  rintro e w' ⟨rfl, h⟩
  have SH : Aside _ := h
  clear h hc
  go_wp2_with fail
  go_ret
  exact ⟨_, rfl, SH.out, none, 0, rfl, fun h => absurd h (by simp), fun _ _ h => by cases h⟩

set_option maxHeartbeats 4000000 in
set_option maxRecDepth 1000000 in
theorem door_siftDown_o (w0 : World) (blk off cap n : Nat) (d : Array Int) (w : World) (S : St1 e64 w0 blk off d w) (hn : d.size = n) (hsz : n < 4611686018427387904) (x y z : Nat) (h1 : x < y) (h2 : z + y ≤ n) :
    Calls Tryz.prog 98 #[.slice (some ⟨blk, off, none⟩) n cap, .int .i64 x, .int .i64 y, .int .i64 z] w fun e w' => e = .returned (.tuple #[]) ∧ St1 e64 w0 blk off (siftDown ltInt y z x d) w' := by
  have hc := siftDown_o w0 blk off cap n d w S hn hsz x y z (by omega) h2
  clear S
  go_enter Tryz.func98, Tryz.ntmps98
  go_wp2_with fail
  refine hc.mono ?_
  rintro e w' ⟨rfl, h⟩
  go_wp2_with fail
  go_end0
  exact ⟨rfl, h⟩

set_option maxHeartbeats 4000000 in
set_option maxRecDepth 1000000 in
theorem by_siftDown_o (b cap n ncap : Nat) (na : Option Addr) (d : Array Int) (x y z : Nat) (hd : d.size = n) (hsz : n < 4611686018427387904) (h1 : x < y) (h2 : z + y ≤ n) (W : World) (hb : b < W.heap.size) (hH : Holds e64 W b 0 d) (hN : RdN W na #[(x : Int), (y : Int), (z : Int)]) :
    Calls Tryz.prog 45 #[.int .i64 1, .slice (some ⟨b, 0, none⟩) n cap, .slice na 3 ncap] W fun e W' => ∃ nv, e = .returned nv ∧ St1 e64 W b 0 (siftDown ltInt y z x d) W' ∧ NumsAt W W' nv #[] := by
  obtain ⟨U, hU⟩ : ∃ U, U = W.alloc (.cells #[.int .i64 0] 3) := ⟨_, rfl⟩
  have BU : Below W.heap.size W U := by rw [hU]; exact below_alloc _ _
  have SV : St1 e64 W b 0 d U.drew := ⟨fun i hi => ⟨(World.cell?_of_block (BU.block b hb)).trans (hH i hi).1, (World.frozen?_of_block (BU.block b hb)).trans (hH i hi).2⟩, Nat.lt_of_lt_of_le hb BU.size, by rw [hU]; exact (World.grownBy_alloc W _ _).trans ⟨rfl, rfl, rfl, Nat.le_refl _, fun _ _ _ => rfl⟩⟩
  have hc := door_siftDown_o W b 0 cap n d U.drew SV hd hsz x y z (by omega) h2
  obtain ⟨nb, noff, rfl, hnb, hnc⟩ := hN (by simp)
  have n0 := (BU.cell (p := ⟨nb, noff + 0, none⟩) hnb).trans (hnc 0 (by simp))
  have n1 := (BU.cell (p := ⟨nb, noff + 1, none⟩) hnb).trans (hnc 1 (by simp))
  have n2 := (BU.cell (p := ⟨nb, noff + 2, none⟩) hnb).trans (hnc 2 (by simp))
  simp at n0 n1 n2
  have hU' : Aside _ := hU
  clear hnc SV BU hH hN hnb
  go_enter Tryz.func45, Tryz.ntmps45
  go_upto_region 6 with fail
  rw [← hU]
  clear hU
  go_still_tail 10, (by kernel_rfl)
  change wpList _ _ _ _ _ U.drew
  clear n0 n1 n2 hU'
  generalize U.drew = V at hc ⊢
  go_wp2_with fail
  refine hc.mono ?_
  rintro e w' ⟨rfl, h⟩
  have SH : Aside _ := h
  clear h hc
  go_wp2_with fail
  go_ret
  exact ⟨_, rfl, SH.out, none, 0, rfl, fun h => absurd h (by simp), fun _ _ h => by cases h⟩

end Go.Proofs.YtglgmkikegbchaaGreat

/- Inner of siftDown, whatever the text (printed by gen/law.py). -/
namespace Go.Proofs.YtglgmkikegbchaaGreat
open Go.RowKit Go.Sort

theorem inner_siftDown (t : Int) (a : Option Addr) (cap : Nat) (d : Array It) (o : Ordr) (na : Option Addr) (ncap : Nat) (X Y Z : Nat) (h1 : X < Y) (h2 : Z + Y ≤ d.size) (w : World) (h : Rd2 w a d) (hN : RdN w na #[(X : Int), (Y : Int), (Z : Int)]) (hsz : d.size ≤ 2000) (hs0 : 0 ≤ o.shift) (hs1 : o.shift < 64) (ht : textB t d o = true) :
    Calls Tryz.prog 28 #[.int .i64 t, .int .i64 1, .slice a d.size cap, vOrd o, .slice na 3 ncap] w (InnerTo w (siftDown (ltC (cfO o)) Y Z X d) #[]) := by
  have HO := cmpC_of o hs0 hs1
  refine inner_any t 1 a cap d _ o na 3 ncap _ _ w h hN hsz (size_siftDown' (ltC (cfO o)) d X Y Z h1 h2) ht many_1 (fun W b c hb hH hN => by_siftDown_c o HO b c d.size ncap na d X Y Z rfl (by omega) h1 h2 W hb hH hN) (fun W b c hb hH hN => by_siftDown_f o HO b c d.size ncap na d X Y Z rfl (by omega) h1 h2 W hb hH hN) (fun ek ks eb => ?_)
  subst eb
  rw [bare_size] at hsz h2
  have hl := ltC_bare o ek
  exact ⟨siftDown ltInt Y Z X ks, nat_siftDown (fun k => ((k, 0) : It)) rfl (ltC (cfO o)) ltInt hl Y Z _ X ks (Nat.le_refl _), fun W b c hb hH hN => by_siftDown_o b c ks.size ncap na ks X Y Z rfl (by omega) h1 h2 W hb hH hN⟩
end Go.Proofs.YtglgmkikegbchaaGreat

/- byCompare, byLess, byKeys: swapRange (printed by gen/by.py). -/
namespace Go.Proofs.YtglgmkikegbchaaGreat
open Go.RowKit Go.Sort

set_option maxHeartbeats 4000000 in
set_option maxRecDepth 1000000 in
theorem door_swapRange_c (O : Value) (cf : It → It → Int) (hC : CmpC O cf) (w0 : World) (blk off cap n : Nat) (d : Array It) (w : World) (S : St2 w0 blk off d w) (hn : d.size = n) (hsz : n < 4611686018427387904) (x y z : Nat) (h1 : x + z ≤ n) (h2 : y + z ≤ n) :
    Calls Tryz.prog 75 #[.slice (some ⟨blk, off, none⟩) n cap, .int .i64 x, .int .i64 y, .int .i64 z, .func (.func 43) #[O] #[]] w fun e w' => e = .returned (.tuple #[]) ∧ St2 w0 blk off (swapRange d x y z) w' := by
  have hc := swapRange_c O cf hC w0 blk off cap n d w S hn hsz x y z h1 h2
  clear S hC
  go_enter Tryz.func75, Tryz.ntmps75
  go_wp2_with fail
  refine hc.mono ?_
  rintro e w' ⟨rfl, h⟩
  go_wp2_with fail
  go_end0
  exact ⟨rfl, h⟩

set_option maxHeartbeats 4000000 in
set_option maxRecDepth 1000000 in
theorem by_swapRange_c (o : Ordr) (HO : CmpC (vOrd o) (cfO o)) (b cap n ncap : Nat) (na : Option Addr) (d : Array It) (x y z : Nat) (hd : d.size = n) (hsz : n < 4611686018427387904) (h1 : x + z ≤ n) (h2 : y + z ≤ n) (W : World) (hb : b < W.heap.size) (hH : Holds2 W b 0 d) (hN : RdN W na #[(x : Int), (y : Int), (z : Int)]) :
    Calls Tryz.prog 42 #[.int .i64 13, .slice (some ⟨b, 0, none⟩) n cap, .func (.func 43) #[vOrd o] #[], .slice na 3 ncap] W fun e W' => ∃ nv, e = .returned nv ∧ St2 W b 0 (swapRange d x y z) W' ∧ NumsAt W W' nv #[] := by
  obtain ⟨U, hU⟩ : ∃ U, U = W.alloc (.cells #[.int .i64 0] 3) := ⟨_, rfl⟩
  have BU : Below W.heap.size W U := by rw [hU]; exact below_alloc _ _
  have SV : St2 W b 0 d U.drew := ⟨fun i hi => Holds2_of_block (BU.block b hb) hH i hi, Nat.lt_of_lt_of_le hb BU.size, by rw [hU]; exact (World.grownBy_alloc W _ _).trans ⟨rfl, rfl, rfl, Nat.le_refl _, fun _ _ _ => rfl⟩⟩
  have hc := door_swapRange_c (vOrd o) (cfO o) HO W b 0 cap n d U.drew SV hd hsz x y z h1 h2
  obtain ⟨nb, noff, rfl, hnb, hnc⟩ := hN (by simp)
  have n0 := (BU.cell (p := ⟨nb, noff + 0, none⟩) hnb).trans (hnc 0 (by simp))
  have n1 := (BU.cell (p := ⟨nb, noff + 1, none⟩) hnb).trans (hnc 1 (by simp))
  have n2 := (BU.cell (p := ⟨nb, noff + 2, none⟩) hnb).trans (hnc 2 (by simp))
  simp at n0 n1 n2
  have hU' : Aside _ := hU
  clear hnc SV BU hH hN hnb
  go_enter Tryz.func42, Tryz.ntmps42
  go_upto_region 35 with fail
  rw [← hU]
  clear hU
  go_still_tail 11, (by kernel_rfl)
  change wpList _ _ _ _ _ U.drew
  clear n0 n1 n2 hU'
  generalize U.drew = V at hc ⊢
  go_wp2_with fail
  refine hc.mono ?_
  rintro e w' ⟨rfl, h⟩
  have SH : Aside _ := h
  clear h hc
  go_wp2_with fail
  go_ret
  exact ⟨_, rfl, SH.out, none, 0, rfl, fun h => absurd h (by simp), fun _ _ h => by cases h⟩

set_option maxHeartbeats 4000000 in
set_option maxRecDepth 1000000 in
theorem door_swapRange_f (T : TypeId) (rv : Value) (lt : It → It → Bool) (gl gs : Nat) (rl rs : Value) (w0 : World) (blk off n : Nat) (F : FaceOk T rv lt w0 blk off n gl gs rl rs) (d : Array It) (w : World) (S : St2 w0 blk off d w) (hn : d.size = n) (hsz : n < 4611686018427387904) (x y z : Nat) (h1 : x + z ≤ n) (h2 : y + z ≤ n) :
    Calls Tryz.prog 93 #[.iface T rv, .int .i64 x, .int .i64 y, .int .i64 z] w fun e w' => e = .returned (.tuple #[]) ∧ St2 w0 blk off (swapRange d x y z) w' := by
  have hc := swapRange_f T rv lt gl gs rl rs w0 blk off n F d w S hn hsz x y z h1 h2
  clear S
  clear F
  go_enter Tryz.func93, Tryz.ntmps93
  go_wp2_with fail
  refine hc.mono ?_
  rintro e w' ⟨rfl, h⟩
  go_wp2_with fail
  go_end0
  exact ⟨rfl, h⟩

set_option maxHeartbeats 4000000 in
set_option maxRecDepth 1000000 in
theorem by_swapRange_f (o : Ordr) (HO : CmpC (vOrd o) (cfO o)) (b cap n ncap : Nat) (na : Option Addr) (d : Array It) (x y z : Nat) (hd : d.size = n) (hsz : n < 4611686018427387904) (h1 : x + z ≤ n) (h2 : y + z ≤ n) (W : World) (hb : b < W.heap.size) (hH : Holds2 W b 0 d) (hN : RdN W na #[(x : Int), (y : Int), (z : Int)]) :
    Calls Tryz.prog 44 #[.int .i64 13, .agg #[.slice (some ⟨b, 0, none⟩) n cap, .int .i64 o.kind, .int .i64 o.shift, .int .u64 o.m0, .int .u64 o.m1, .int .u64 o.m2], .slice na 3 ncap] W fun e W' => ∃ nv, e = .returned nv ∧ St2 W b 0 (swapRange d x y z) W' ∧ NumsAt W W' nv #[] := by
  obtain ⟨k, s, m0, m1, m2⟩ := o
  obtain ⟨U, hU⟩ : ∃ U, U = (W.alloc (.cells #[.slice (some ⟨b, 0, none⟩) n cap, .int .i64 k, .int .i64 s, .int .u64 m0, .int .u64 m1, .int .u64 m2] 61)).alloc (.cells #[.int .i64 0] 3) := ⟨_, rfl⟩
  have BU : Below W.heap.size W U := by rw [hU]; exact Below.next (below_alloc _ _) (below_alloc _ _)
  have SV : St2 W b 0 d U.drew := ⟨fun i hi => Holds2_of_block (BU.block b hb) hH i hi, Nat.lt_of_lt_of_le hb BU.size, by rw [hU]; exact ((World.grownBy_alloc W _ _).trans (World.grownBy_alloc _ _ _)).trans ⟨rfl, rfl, rfl, Nat.le_refl _, fun _ _ _ => rfl⟩⟩
  have hc := door_swapRange_f 61 (vFace b cap n ⟨k, s, m0, m1, m2⟩) (ltC (cfO ⟨k, s, m0, m1, m2⟩)) 197 198 (vFace b cap n ⟨k, s, m0, m1, m2⟩) (vFace b cap n ⟨k, s, m0, m1, m2⟩) W b 0 n (face_ok ⟨k, s, m0, m1, m2⟩ HO W b cap n) d U.drew SV hd hsz x y z h1 h2
  obtain ⟨nb, noff, rfl, hnb, hnc⟩ := hN (by simp)
  have n0 := (BU.cell (p := ⟨nb, noff + 0, none⟩) hnb).trans (hnc 0 (by simp))
  have n1 := (BU.cell (p := ⟨nb, noff + 1, none⟩) hnb).trans (hnc 1 (by simp))
  have n2 := (BU.cell (p := ⟨nb, noff + 2, none⟩) hnb).trans (hnc 2 (by simp))
  simp at n0 n1 n2
  have hbox : U.heap[W.heap.size]? = some (.cells #[.slice (some ⟨b, 0, none⟩) n cap, .int .i64 k, .int .i64 s, .int .u64 m0, .int .u64 m1, .int .u64 m2] 61 (0, 0)) := by rw [hU]; exact (heap_alloc_old _ _ (by simp)).trans (heap_alloc_new _ _)
  have q0 := cell_at (i := 0) hbox rfl
  have q1 := cell_at (i := 1) hbox rfl
  have q2 := cell_at (i := 2) hbox rfl
  have q3 := cell_at (i := 3) hbox rfl
  have q4 := cell_at (i := 4) hbox rfl
  have q5 := cell_at (i := 5) hbox rfl
  clear hbox
  have hU' : Aside _ := hU
  clear hnc SV BU hH hN hnb
  go_enter Tryz.func44, Tryz.ntmps44
  go_upto_region 35 with fail
  rw [← hU]
  clear hU
  go_still_tail 11, (by kernel_rfl)
  change wpList _ _ _ _ _ U.drew
  clear n0 n1 n2 q0 q1 q2 q3 q4 q5 hU'
  generalize U.drew = V at hc ⊢
  go_wp2_with fail
  refine hc.mono ?_
  rintro e w' ⟨rfl, h⟩
  have SH : Aside _ := h
  clear h hc
  go_wp2_with fail
  go_ret
  exact ⟨_, rfl, SH.out, none, 0, rfl, fun h => absurd h (by simp), fun _ _ h => by cases h⟩

set_option maxHeartbeats 4000000 in
set_option maxRecDepth 1000000 in
theorem door_swapRange_o (w0 : World) (blk off cap n : Nat) (d : Array Int) (w : World) (S : St1 e64 w0 blk off d w) (hn : d.size = n) (hsz : n < 4611686018427387904) (x y z : Nat) (h1 : x + z ≤ n) (h2 : y + z ≤ n) :
    Calls Tryz.prog 110 #[.slice (some ⟨blk, off, none⟩) n cap, .int .i64 x, .int .i64 y, .int .i64 z] w fun e w' => e = .returned (.tuple #[]) ∧ St1 e64 w0 blk off (swapRange d x y z) w' := by
  have hc := swapRange_o w0 blk off cap n d w S hn hsz x y z h1 h2
  clear S
  go_enter Tryz.func110, Tryz.ntmps110
  go_wp2_with fail
  refine hc.mono ?_
  rintro e w' ⟨rfl, h⟩
  go_wp2_with fail
  go_end0
  exact ⟨rfl, h⟩

set_option maxHeartbeats 4000000 in
set_option maxRecDepth 1000000 in
theorem by_swapRange_o (b cap n ncap : Nat) (na : Option Addr) (d : Array Int) (x y z : Nat) (hd : d.size = n) (hsz : n < 4611686018427387904) (h1 : x + z ≤ n) (h2 : y + z ≤ n) (W : World) (hb : b < W.heap.size) (hH : Holds e64 W b 0 d) (hN : RdN W na #[(x : Int), (y : Int), (z : Int)]) :
    Calls Tryz.prog 45 #[.int .i64 13, .slice (some ⟨b, 0, none⟩) n cap, .slice na 3 ncap] W fun e W' => ∃ nv, e = .returned nv ∧ St1 e64 W b 0 (swapRange d x y z) W' ∧ NumsAt W W' nv #[] := by
  obtain ⟨U, hU⟩ : ∃ U, U = W.alloc (.cells #[.int .i64 0] 3) := ⟨_, rfl⟩
  have BU : Below W.heap.size W U := by rw [hU]; exact below_alloc _ _
  have SV : St1 e64 W b 0 d U.drew := ⟨fun i hi => ⟨(World.cell?_of_block (BU.block b hb)).trans (hH i hi).1, (World.frozen?_of_block (BU.block b hb)).trans (hH i hi).2⟩, Nat.lt_of_lt_of_le hb BU.size, by rw [hU]; exact (World.grownBy_alloc W _ _).trans ⟨rfl, rfl, rfl, Nat.le_refl _, fun _ _ _ => rfl⟩⟩
  have hc := door_swapRange_o W b 0 cap n d U.drew SV hd hsz x y z h1 h2
  obtain ⟨nb, noff, rfl, hnb, hnc⟩ := hN (by simp)
  have n0 := (BU.cell (p := ⟨nb, noff + 0, none⟩) hnb).trans (hnc 0 (by simp))
  have n1 := (BU.cell (p := ⟨nb, noff + 1, none⟩) hnb).trans (hnc 1 (by simp))
  have n2 := (BU.cell (p := ⟨nb, noff + 2, none⟩) hnb).trans (hnc 2 (by simp))
  simp at n0 n1 n2
  have hU' : Aside _ := hU
  clear hnc SV BU hH hN hnb
  go_enter Tryz.func45, Tryz.ntmps45
  go_upto_region 35 with fail
  rw [← hU]
  clear hU
  go_still_tail 10, (by kernel_rfl)
  change wpList _ _ _ _ _ U.drew
  clear n0 n1 n2 hU'
  generalize U.drew = V at hc ⊢
  go_wp2_with fail
  refine hc.mono ?_
  rintro e w' ⟨rfl, h⟩
  have SH : Aside _ := h
  clear h hc
  go_wp2_with fail
  go_ret
  exact ⟨_, rfl, SH.out, none, 0, rfl, fun h => absurd h (by simp), fun _ _ h => by cases h⟩

end Go.Proofs.YtglgmkikegbchaaGreat

/- Inner of swapRange, whatever the text (printed by gen/law.py). -/
namespace Go.Proofs.YtglgmkikegbchaaGreat
open Go.RowKit Go.Sort

theorem inner_swapRange (t : Int) (a : Option Addr) (cap : Nat) (d : Array It) (o : Ordr) (na : Option Addr) (ncap : Nat) (X Y Z : Nat) (h1 : X + Z ≤ d.size) (h2 : Y + Z ≤ d.size) (w : World) (h : Rd2 w a d) (hN : RdN w na #[(X : Int), (Y : Int), (Z : Int)]) (hsz : d.size ≤ 2000) (hs0 : 0 ≤ o.shift) (hs1 : o.shift < 64) (ht : textB t d o = true) :
    Calls Tryz.prog 28 #[.int .i64 t, .int .i64 13, .slice a d.size cap, vOrd o, .slice na 3 ncap] w (InnerTo w (swapRange d X Y Z) #[]) := by
  have HO := cmpC_of o hs0 hs1
  refine inner_any t 13 a cap d _ o na 3 ncap _ _ w h hN hsz (size_swapRange' (ltC (cfO o)) d X Y Z h1 h2) ht many_13 (fun W b c hb hH hN => by_swapRange_c o HO b c d.size ncap na d X Y Z rfl (by omega) h1 h2 W hb hH hN) (fun W b c hb hH hN => by_swapRange_f o HO b c d.size ncap na d X Y Z rfl (by omega) h1 h2 W hb hH hN) (fun ek ks eb => ?_)
  subst eb
  rw [bare_size] at hsz h1 h2
  have hl := ltC_bare o ek
  exact ⟨swapRange ks X Y Z, nat_swapRange (fun k => ((k, 0) : It)) rfl ks X Y Z, fun W b c hb hH hN => by_swapRange_o b c ks.size ncap na ks X Y Z rfl (by omega) h1 h2 W hb hH hN⟩
end Go.Proofs.YtglgmkikegbchaaGreat
