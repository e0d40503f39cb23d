/- Texts of this claim, laid together: zByBreakPatterns, zInBreakPatterns, zByChoosePivot, zInChoosePivot, zByOrder2, zInOrder2, zByPartialInsertionSort, zInPartialInsertionSort, zByPartition, zInPartition, zByPartitionEqual, zInPartitionEqual. -/
import Derived.Test.YtglgmkikegbchaaGreatGWcBreakPatterns
import Derived.Test.YtglgmkikegbchaaGreatGWfBreakPatterns
import Derived.Test.YtglgmkikegbchaaGreatGWoBreakPatterns
import Derived.Test.YtglgmkikegbchaaGreatGBS
import Derived.StillTailTactics
import Derived.Test.YtglgmkikegbchaaGreatGV
import Derived.Test.YtglgmkikegbchaaGreatKb
import Derived.Test.YtglgmkikegbchaaGreatGzNums
import Derived.Test.YtglgmkikegbchaaGreatMid
import Derived.Test.YtglgmkikegbchaaGreatWcPartialInsertionSort
import Derived.Test.YtglgmkikegbchaaGreatWfPartialInsertionSort
import Derived.Test.YtglgmkikegbchaaGreatWoPartialInsertionSort
import Derived.Test.YtglgmkikegbchaaGreatWcPartition
import Derived.Test.YtglgmkikegbchaaGreatWfPartition
import Derived.Test.YtglgmkikegbchaaGreatWoPartition
import Derived.Test.YtglgmkikegbchaaGreatWcPartitionEqual
import Derived.Test.YtglgmkikegbchaaGreatWfPartitionEqual
import Derived.Test.YtglgmkikegbchaaGreatWoPartitionEqual
/- byCompare, byLess, byKeys: breakPatterns (printed by gen/by.py). -/
namespace Go.Proofs.YtglgmkikegbchaaGreat
open Go.RowKit Go.Sort

set_option maxHeartbeats 4000000 in
set_option maxRecDepth 1000000 in
theorem door_breakPatterns_c (O : Value) (cf : It → It → Int) (hC : CmpC O cf) (w0 : World) (blk off cap n : Nat) (d : Array It) (w : World) (S : St2 w0 blk off d w) (hn : d.size = n) (hsz : n < 4611686018427387904) (x y : Nat) (h1 : x ≤ y) (h2 : y ≤ n) :
    Calls Tryz.prog 69 #[.slice (some ⟨blk, off, none⟩) n cap, .int .i64 x, .int .i64 y, .func (.func 43) #[O] #[]] w fun e w' => e = .returned (.tuple #[]) ∧ St2 w0 blk off (breakPatterns d x y) w' := by
  have hc := breakPatterns_c O cf hC w0 blk off cap n d w S hn hsz x y h1 h2
  clear S hC
  go_enter Tryz.func69, Tryz.ntmps69
  go_wp2_with fail
  refine hc.mono ?_
  rintro e w' ⟨rfl, h⟩
  go_wp2_with fail
  go_end0
  exact ⟨rfl, h⟩

set_option maxHeartbeats 4000000 in
set_option maxRecDepth 1000000 in
theorem by_breakPatterns_c (o : Ordr) (HO : CmpC (vOrd o) (cfO o)) (b cap n ncap : Nat) (na : Option Addr) (d : Array It) (x y : Nat) (hd : d.size = n) (hsz : n < 4611686018427387904) (h1 : x ≤ y) (h2 : y ≤ n) (W : World) (hb : b < W.heap.size) (hH : Holds2 W b 0 d) (hN : RdN W na #[(x : Int), (y : Int)]) :
    Calls Tryz.prog 42 #[.int .i64 7, .slice (some ⟨b, 0, none⟩) n cap, .func (.func 43) #[vOrd o] #[], .slice na 2 ncap] W fun e W' => ∃ nv, e = .returned nv ∧ St2 W b 0 (breakPatterns d x y) W' ∧ NumsAt W W' nv #[] := by
  obtain ⟨U, hU⟩ : ∃ U, U = W.alloc (.cells #[.int .i64 0] 3) := ⟨_, rfl⟩
  have BU : Below W.heap.size W U := by rw [hU]; exact below_alloc _ _
  have SV : St2 W b 0 d U.drew := ⟨fun i hi => Holds2_of_block (BU.block b hb) hH i hi, Nat.lt_of_lt_of_le hb BU.size, by rw [hU]; exact (World.grownBy_alloc W _ _).trans ⟨rfl, rfl, rfl, Nat.le_refl _, fun _ _ _ => rfl⟩⟩
  have hc := door_breakPatterns_c (vOrd o) (cfO o) HO W b 0 cap n d U.drew SV hd hsz x y h1 h2
  obtain ⟨nb, noff, rfl, hnb, hnc⟩ := hN (by simp)
  have n0 := (BU.cell (p := ⟨nb, noff + 0, none⟩) hnb).trans (hnc 0 (by simp))
  have n1 := (BU.cell (p := ⟨nb, noff + 1, none⟩) hnb).trans (hnc 1 (by simp))
  simp at n0 n1
  have hU' : Aside _ := hU
  clear hnc SV BU hH hN hnb
  go_enter Tryz.func42, Tryz.ntmps42
  go_upto_region 19 with fail
  rw [← hU]
  clear hU
  go_still_tail 8, (by kernel_rfl)
  change wpList _ _ _ _ _ U.drew
  clear n0 n1 hU'
  generalize U.drew = V at hc ⊢
  go_wp2_with fail
  refine hc.mono ?_
  rintro e w' ⟨rfl, h⟩
  have SH : Aside _ := h
  clear h hc
  go_wp2_with fail
  go_ret
  exact ⟨_, rfl, SH.out, none, 0, rfl, fun h => absurd h (by simp), fun _ _ h => by cases h⟩

set_option maxHeartbeats 4000000 in
set_option maxRecDepth 1000000 in
theorem door_breakPatterns_f (T : TypeId) (rv : Value) (lt : It → It → Bool) (gl gs : Nat) (rl rs : Value) (w0 : World) (blk off n : Nat) (F : FaceOk T rv lt w0 blk off n gl gs rl rs) (d : Array It) (w : World) (S : St2 w0 blk off d w) (hn : d.size = n) (hsz : n < 4611686018427387904) (x y : Nat) (h1 : x ≤ y) (h2 : y ≤ n) :
    Calls Tryz.prog 87 #[.iface T rv, .int .i64 x, .int .i64 y] w fun e w' => e = .returned (.tuple #[]) ∧ St2 w0 blk off (breakPatterns d x y) w' := by
  have hc := breakPatterns_f T rv lt gl gs rl rs w0 blk off n F d w S hn hsz x y h1 h2
  clear S
  clear F
  go_enter Tryz.func87, Tryz.ntmps87
  go_wp2_with fail
  refine hc.mono ?_
  rintro e w' ⟨rfl, h⟩
  go_wp2_with fail
  go_end0
  exact ⟨rfl, h⟩

set_option maxHeartbeats 4000000 in
set_option maxRecDepth 1000000 in
theorem by_breakPatterns_f (o : Ordr) (HO : CmpC (vOrd o) (cfO o)) (b cap n ncap : Nat) (na : Option Addr) (d : Array It) (x y : Nat) (hd : d.size = n) (hsz : n < 4611686018427387904) (h1 : x ≤ y) (h2 : y ≤ n) (W : World) (hb : b < W.heap.size) (hH : Holds2 W b 0 d) (hN : RdN W na #[(x : Int), (y : Int)]) :
    Calls Tryz.prog 44 #[.int .i64 7, .agg #[.slice (some ⟨b, 0, none⟩) n cap, .int .i64 o.kind, .int .i64 o.shift, .int .u64 o.m0, .int .u64 o.m1, .int .u64 o.m2], .slice na 2 ncap] W fun e W' => ∃ nv, e = .returned nv ∧ St2 W b 0 (breakPatterns d x y) W' ∧ NumsAt W W' nv #[] := by
  obtain ⟨k, s, m0, m1, m2⟩ := o
  obtain ⟨U, hU⟩ : ∃ U, U = (W.alloc (.cells #[.slice (some ⟨b, 0, none⟩) n cap, .int .i64 k, .int .i64 s, .int .u64 m0, .int .u64 m1, .int .u64 m2] 61)).alloc (.cells #[.int .i64 0] 3) := ⟨_, rfl⟩
  have BU : Below W.heap.size W U := by rw [hU]; exact Below.next (below_alloc _ _) (below_alloc _ _)
  have SV : St2 W b 0 d U.drew := ⟨fun i hi => Holds2_of_block (BU.block b hb) hH i hi, Nat.lt_of_lt_of_le hb BU.size, by rw [hU]; exact ((World.grownBy_alloc W _ _).trans (World.grownBy_alloc _ _ _)).trans ⟨rfl, rfl, rfl, Nat.le_refl _, fun _ _ _ => rfl⟩⟩
  have hc := door_breakPatterns_f 61 (vFace b cap n ⟨k, s, m0, m1, m2⟩) (ltC (cfO ⟨k, s, m0, m1, m2⟩)) 197 198 (vFace b cap n ⟨k, s, m0, m1, m2⟩) (vFace b cap n ⟨k, s, m0, m1, m2⟩) W b 0 n (face_ok ⟨k, s, m0, m1, m2⟩ HO W b cap n) d U.drew SV hd hsz x y h1 h2
  obtain ⟨nb, noff, rfl, hnb, hnc⟩ := hN (by simp)
  have n0 := (BU.cell (p := ⟨nb, noff + 0, none⟩) hnb).trans (hnc 0 (by simp))
  have n1 := (BU.cell (p := ⟨nb, noff + 1, none⟩) hnb).trans (hnc 1 (by simp))
  simp at n0 n1
  have hbox : U.heap[W.heap.size]? = some (.cells #[.slice (some ⟨b, 0, none⟩) n cap, .int .i64 k, .int .i64 s, .int .u64 m0, .int .u64 m1, .int .u64 m2] 61 (0, 0)) := by rw [hU]; exact (heap_alloc_old _ _ (by simp)).trans (heap_alloc_new _ _)
  have q0 := cell_at (i := 0) hbox rfl
  have q1 := cell_at (i := 1) hbox rfl
  have q2 := cell_at (i := 2) hbox rfl
  have q3 := cell_at (i := 3) hbox rfl
  have q4 := cell_at (i := 4) hbox rfl
  have q5 := cell_at (i := 5) hbox rfl
  clear hbox
  have hU' : Aside _ := hU
  clear hnc SV BU hH hN hnb
  go_enter Tryz.func44, Tryz.ntmps44
  go_upto_region 19 with fail
  rw [← hU]
  clear hU
  go_still_tail 8, (by kernel_rfl)
  change wpList _ _ _ _ _ U.drew
  clear n0 n1 q0 q1 q2 q3 q4 q5 hU'
  generalize U.drew = V at hc ⊢
  go_wp2_with fail
  refine hc.mono ?_
  rintro e w' ⟨rfl, h⟩
  have SH : Aside _ := h
  clear h hc
  go_wp2_with fail
  go_ret
  exact ⟨_, rfl, SH.out, none, 0, rfl, fun h => absurd h (by simp), fun _ _ h => by cases h⟩

set_option maxHeartbeats 4000000 in
set_option maxRecDepth 1000000 in
theorem door_breakPatterns_o (w0 : World) (blk off cap n : Nat) (d : Array Int) (w : World) (S : St1 e64 w0 blk off d w) (hn : d.size = n) (hsz : n < 4611686018427387904) (x y : Nat) (h1 : x ≤ y) (h2 : y ≤ n) :
    Calls Tryz.prog 104 #[.slice (some ⟨blk, off, none⟩) n cap, .int .i64 x, .int .i64 y] w fun e w' => e = .returned (.tuple #[]) ∧ St1 e64 w0 blk off (breakPatterns d x y) w' := by
  have hc := breakPatterns_o w0 blk off cap n d w S hn hsz x y h1 h2
  clear S
  go_enter Tryz.func104, Tryz.ntmps104
  go_wp2_with fail
  refine hc.mono ?_
  rintro e w' ⟨rfl, h⟩
  go_wp2_with fail
  go_end0
  exact ⟨rfl, h⟩

set_option maxHeartbeats 4000000 in
set_option maxRecDepth 1000000 in
theorem by_breakPatterns_o (b cap n ncap : Nat) (na : Option Addr) (d : Array Int) (x y : Nat) (hd : d.size = n) (hsz : n < 4611686018427387904) (h1 : x ≤ y) (h2 : y ≤ n) (W : World) (hb : b < W.heap.size) (hH : Holds e64 W b 0 d) (hN : RdN W na #[(x : Int), (y : Int)]) :
    Calls Tryz.prog 45 #[.int .i64 7, .slice (some ⟨b, 0, none⟩) n cap, .slice na 2 ncap] W fun e W' => ∃ nv, e = .returned nv ∧ St1 e64 W b 0 (breakPatterns d x y) W' ∧ NumsAt W W' nv #[] := by
  obtain ⟨U, hU⟩ : ∃ U, U = W.alloc (.cells #[.int .i64 0] 3) := ⟨_, rfl⟩
  have BU : Below W.heap.size W U := by rw [hU]; exact below_alloc _ _
  have SV : St1 e64 W b 0 d U.drew := ⟨fun i hi => ⟨(World.cell?_of_block (BU.block b hb)).trans (hH i hi).1, (World.frozen?_of_block (BU.block b hb)).trans (hH i hi).2⟩, Nat.lt_of_lt_of_le hb BU.size, by rw [hU]; exact (World.grownBy_alloc W _ _).trans ⟨rfl, rfl, rfl, Nat.le_refl _, fun _ _ _ => rfl⟩⟩
  have hc := door_breakPatterns_o W b 0 cap n d U.drew SV hd hsz x y h1 h2
  obtain ⟨nb, noff, rfl, hnb, hnc⟩ := hN (by simp)
  have n0 := (BU.cell (p := ⟨nb, noff + 0, none⟩) hnb).trans (hnc 0 (by simp))
  have n1 := (BU.cell (p := ⟨nb, noff + 1, none⟩) hnb).trans (hnc 1 (by simp))
  simp at n0 n1
  have hU' : Aside _ := hU
  clear hnc SV BU hH hN hnb
  go_enter Tryz.func45, Tryz.ntmps45
  go_upto_region 19 with fail
  rw [← hU]
  clear hU
  go_still_tail 7, (by kernel_rfl)
  change wpList _ _ _ _ _ U.drew
  clear n0 n1 hU'
  generalize U.drew = V at hc ⊢
  go_wp2_with fail
  refine hc.mono ?_
  rintro e w' ⟨rfl, h⟩
  have SH : Aside _ := h
  clear h hc
  go_wp2_with fail
  go_ret
  exact ⟨_, rfl, SH.out, none, 0, rfl, fun h => absurd h (by simp), fun _ _ h => by cases h⟩

end Go.Proofs.YtglgmkikegbchaaGreat

/- Inner of breakPatterns, whatever the text (printed by gen/law.py). -/
namespace Go.Proofs.YtglgmkikegbchaaGreat
open Go.RowKit Go.Sort

theorem inner_breakPatterns (t : Int) (a : Option Addr) (cap : Nat) (d : Array It) (o : Ordr) (na : Option Addr) (ncap : Nat) (X Y : Nat) (h1 : X ≤ Y) (h2 : Y ≤ d.size) (w : World) (h : Rd2 w a d) (hN : RdN w na #[(X : Int), (Y : Int)]) (hsz : d.size ≤ 2000) (hs0 : 0 ≤ o.shift) (hs1 : o.shift < 64) (ht : textB t d o = true) :
    Calls Tryz.prog 28 #[.int .i64 t, .int .i64 7, .slice a d.size cap, vOrd o, .slice na 2 ncap] w (InnerTo w (breakPatterns d X Y) #[]) := by
  have HO := cmpC_of o hs0 hs1
  refine inner_any t 7 a cap d _ o na 2 ncap _ _ w h hN hsz (size_breakPatterns (ltC (cfO o)) d X Y h1 h2) ht many_7 (fun W b c hb hH hN => by_breakPatterns_c o HO b c d.size ncap na d X Y rfl (by omega) h1 h2 W hb hH hN) (fun W b c hb hH hN => by_breakPatterns_f o HO b c d.size ncap na d X Y rfl (by omega) h1 h2 W hb hH hN) (fun ek ks eb => ?_)
  subst eb
  rw [bare_size] at hsz h2
  have hl := ltC_bare o ek
  exact ⟨breakPatterns ks X Y, nat_breakPatterns (fun k => ((k, 0) : It)) rfl ks X Y, fun W b c hb hH hN => by_breakPatterns_o b c ks.size ncap na ks X Y rfl (by omega) h1 h2 W hb hH hN⟩
end Go.Proofs.YtglgmkikegbchaaGreat

/- byCompare, byLess, byKeys: choosePivot (printed by gen/by.py). -/
namespace Go.Proofs.YtglgmkikegbchaaGreat
open Go.RowKit Go.Sort

set_option maxHeartbeats 4000000 in
set_option maxRecDepth 1000000 in
theorem door_choosePivot_c (O : Value) (cf : It → It → Int) (hC : CmpC O cf) (w0 : World) (blk off cap n : Nat) (d : Array It) (w : World) (S : St2 w0 blk off d w) (hn : d.size = n) (hsz : n < 4611686018427387904) (x y : Nat) (h1 : x < y) (h2 : y ≤ n) :
    Calls Tryz.prog 70 #[.slice (some ⟨blk, off, none⟩) n cap, .int .i64 x, .int .i64 y, .func (.func 43) #[O] #[]] w fun e w' => e = .returned (.tuple #[.int .i64 (choosePivot (ltC cf) d x y).1, .int .i64 (hintCode (choosePivot (ltC cf) d x y).2)]) ∧ St2 w0 blk off d w' := by
  have hc := choosePivot_c O cf hC w0 blk off cap n d w S hn hsz x y (by omega) h2
  obtain ⟨r, hr⟩ : ∃ r, r = choosePivot (ltC cf) d x y := ⟨_, rfl⟩
  rw [← hr] at hc ⊢
  clear hr S hC
  go_enter Tryz.func70, Tryz.ntmps70
  go_wp2_with fail
  refine hc.mono ?_
  rintro e w' ⟨rfl, h⟩
  go_wp2_with fail
  (try simp only [Exit.inBlock, Exit.then]); refine bodyPost_ret (results_tmp2 rfl _ _ _) rfl ?_
  exact ⟨rfl, h⟩

set_option maxHeartbeats 4000000 in
set_option maxRecDepth 1000000 in
theorem by_choosePivot_c (o : Ordr) (HO : CmpC (vOrd o) (cfO o)) (b cap n ncap : Nat) (na : Option Addr) (d : Array It) (x y : Nat) (hd : d.size = n) (hsz : n < 4611686018427387904) (h1 : x < y) (h2 : y ≤ n) (W : World) (hb : b < W.heap.size) (hH : Holds2 W b 0 d) (hN : RdN W na #[(x : Int), (y : Int)]) :
    Calls Tryz.prog 42 #[.int .i64 8, .slice (some ⟨b, 0, none⟩) n cap, .func (.func 43) #[vOrd o] #[], .slice na 2 ncap] W fun e W' => ∃ nv, e = .returned nv ∧ St2 W b 0 d W' ∧ NumsAt W W' nv #[((choosePivot (ltC (cfO o)) d x y).1 : Int), hintCode (choosePivot (ltC (cfO o)) d x y).2] := by
  obtain ⟨r, hr⟩ : ∃ r, r = choosePivot (ltC (cfO o)) d x y := ⟨_, rfl⟩
  rw [← hr]
  obtain ⟨U, hU⟩ : ∃ U, U = W.alloc (.cells #[.int .i64 0] 3) := ⟨_, rfl⟩
  have BU : Below W.heap.size W U := by rw [hU]; exact below_alloc _ _
  have SV : St2 W b 0 d U.drew := ⟨fun i hi => Holds2_of_block (BU.block b hb) hH i hi, Nat.lt_of_lt_of_le hb BU.size, by rw [hU]; exact (World.grownBy_alloc W _ _).trans ⟨rfl, rfl, rfl, Nat.le_refl _, fun _ _ _ => rfl⟩⟩
  have hc := door_choosePivot_c (vOrd o) (cfO o) HO W b 0 cap n d U.drew SV hd hsz x y h1 h2
  rw [← hr] at hc
  obtain ⟨nb, noff, rfl, hnb, hnc⟩ := hN (by simp)
  have n0 := (BU.cell (p := ⟨nb, noff + 0, none⟩) hnb).trans (hnc 0 (by simp))
  have n1 := (BU.cell (p := ⟨nb, noff + 1, none⟩) hnb).trans (hnc 1 (by simp))
  simp at n0 n1
  have hU' : Aside _ := hU
  clear hr hnc SV BU hH hN hnb
  go_enter Tryz.func42, Tryz.ntmps42
  go_upto_region 21 with fail
  rw [← hU]
  clear hU
  refine wp_region_still_mid 8 (by kernel_rfl) (by kernel_rfl) ?_
  intro Q1 hQ1
  simp only [List.take_succ_cons, List.take_zero, List.drop_succ_cons, List.drop_zero] at hQ1 ⊢
  have HQ : Aside _ := hQ1
  clear hQ1
  repeat still_step
  refine wpStill_nil ?_
  change wpList _ _ _ _ _ U.drew
  clear n0 n1 hU'
  generalize U.drew = V at hc ⊢
  go_wp2_with fail
  refine hc.mono ?_
  rintro e w' ⟨rfl, h⟩
  have SH : Aside _ := h
  clear h hc
  go_wp2_with fail
  refine HQ.out _ _ ?_
  clear HQ
  repeat still_step
  refine wpStill_nil ?_
  go_wp2_with fail
  go_ret
  exact ⟨_, rfl, SH.out.alloc _, nums_new W w' #[(r.1 : Int), hintCode r.2] _ _ (by simp) SH.out.grown.size⟩

set_option maxHeartbeats 4000000 in
set_option maxRecDepth 1000000 in
theorem door_choosePivot_f (T : TypeId) (rv : Value) (lt : It → It → Bool) (gl gs : Nat) (rl rs : Value) (w0 : World) (blk off n : Nat) (F : FaceOk T rv lt w0 blk off n gl gs rl rs) (d : Array It) (w : World) (S : St2 w0 blk off d w) (hn : d.size = n) (hsz : n < 4611686018427387904) (x y : Nat) (h1 : x < y) (h2 : y ≤ n) :
    Calls Tryz.prog 88 #[.iface T rv, .int .i64 x, .int .i64 y] w fun e w' => e = .returned (.tuple #[.int .i64 (choosePivot lt d x y).1, .int .i64 (hintCode (choosePivot lt d x y).2)]) ∧ St2 w0 blk off d w' := by
  have hc := choosePivot_f T rv lt gl gs rl rs w0 blk off n F d w S hn hsz x y (by omega) h2
  obtain ⟨r, hr⟩ : ∃ r, r = choosePivot lt d x y := ⟨_, rfl⟩
  rw [← hr] at hc ⊢
  clear hr S F
  go_enter Tryz.func88, Tryz.ntmps88
  go_wp2_with fail
  refine hc.mono ?_
  rintro e w' ⟨rfl, h⟩
  go_wp2_with fail
  (try simp only [Exit.inBlock, Exit.then]); refine bodyPost_ret (results_tmp2 rfl _ _ _) rfl ?_
  exact ⟨rfl, h⟩

set_option maxHeartbeats 4000000 in
set_option maxRecDepth 1000000 in
theorem by_choosePivot_f (o : Ordr) (HO : CmpC (vOrd o) (cfO o)) (b cap n ncap : Nat) (na : Option Addr) (d : Array It) (x y : Nat) (hd : d.size = n) (hsz : n < 4611686018427387904) (h1 : x < y) (h2 : y ≤ n) (W : World) (hb : b < W.heap.size) (hH : Holds2 W b 0 d) (hN : RdN W na #[(x : Int), (y : Int)]) :
    Calls Tryz.prog 44 #[.int .i64 8, .agg #[.slice (some ⟨b, 0, none⟩) n cap, .int .i64 o.kind, .int .i64 o.shift, .int .u64 o.m0, .int .u64 o.m1, .int .u64 o.m2], .slice na 2 ncap] W fun e W' => ∃ nv, e = .returned nv ∧ St2 W b 0 d W' ∧ NumsAt W W' nv #[((choosePivot (ltC (cfO o)) d x y).1 : Int), hintCode (choosePivot (ltC (cfO o)) d x y).2] := by
  obtain ⟨r, hr⟩ : ∃ r, r = choosePivot (ltC (cfO o)) d x y := ⟨_, rfl⟩
  rw [← hr]
  obtain ⟨k, s, m0, m1, m2⟩ := o
  obtain ⟨U, hU⟩ : ∃ U, U = (W.alloc (.cells #[.slice (some ⟨b, 0, none⟩) n cap, .int .i64 k, .int .i64 s, .int .u64 m0, .int .u64 m1, .int .u64 m2] 61)).alloc (.cells #[.int .i64 0] 3) := ⟨_, rfl⟩
  have BU : Below W.heap.size W U := by rw [hU]; exact Below.next (below_alloc _ _) (below_alloc _ _)
  have SV : St2 W b 0 d U.drew := ⟨fun i hi => Holds2_of_block (BU.block b hb) hH i hi, Nat.lt_of_lt_of_le hb BU.size, by rw [hU]; exact ((World.grownBy_alloc W _ _).trans (World.grownBy_alloc _ _ _)).trans ⟨rfl, rfl, rfl, Nat.le_refl _, fun _ _ _ => rfl⟩⟩
  have hc := door_choosePivot_f 61 (vFace b cap n ⟨k, s, m0, m1, m2⟩) (ltC (cfO ⟨k, s, m0, m1, m2⟩)) 197 198 (vFace b cap n ⟨k, s, m0, m1, m2⟩) (vFace b cap n ⟨k, s, m0, m1, m2⟩) W b 0 n (face_ok ⟨k, s, m0, m1, m2⟩ HO W b cap n) d U.drew SV hd hsz x y h1 h2
  rw [← hr] at hc
  obtain ⟨nb, noff, rfl, hnb, hnc⟩ := hN (by simp)
  have n0 := (BU.cell (p := ⟨nb, noff + 0, none⟩) hnb).trans (hnc 0 (by simp))
  have n1 := (BU.cell (p := ⟨nb, noff + 1, none⟩) hnb).trans (hnc 1 (by simp))
  simp at n0 n1
  have hbox : U.heap[W.heap.size]? = some (.cells #[.slice (some ⟨b, 0, none⟩) n cap, .int .i64 k, .int .i64 s, .int .u64 m0, .int .u64 m1, .int .u64 m2] 61 (0, 0)) := by rw [hU]; exact (heap_alloc_old _ _ (by simp)).trans (heap_alloc_new _ _)
  have q0 := cell_at (i := 0) hbox rfl
  have q1 := cell_at (i := 1) hbox rfl
  have q2 := cell_at (i := 2) hbox rfl
  have q3 := cell_at (i := 3) hbox rfl
  have q4 := cell_at (i := 4) hbox rfl
  have q5 := cell_at (i := 5) hbox rfl
  clear hbox
  have hU' : Aside _ := hU
  clear hr hnc SV BU hH hN hnb
  go_enter Tryz.func44, Tryz.ntmps44
  go_upto_region 21 with fail
  rw [← hU]
  clear hU
  refine wp_region_still_mid 8 (by kernel_rfl) (by kernel_rfl) ?_
  intro Q1 hQ1
  simp only [List.take_succ_cons, List.take_zero, List.drop_succ_cons, List.drop_zero] at hQ1 ⊢
  have HQ : Aside _ := hQ1
  clear hQ1
  repeat still_step
  refine wpStill_nil ?_
  change wpList _ _ _ _ _ U.drew
  clear n0 n1 q0 q1 q2 q3 q4 q5 hU'
  generalize U.drew = V at hc ⊢
  go_wp2_with fail
  refine hc.mono ?_
  rintro e w' ⟨rfl, h⟩
  have SH : Aside _ := h
  clear h hc
  go_wp2_with fail
  refine HQ.out _ _ ?_
  clear HQ
  repeat still_step
  refine wpStill_nil ?_
  go_wp2_with fail
  go_ret
  exact ⟨_, rfl, SH.out.alloc _, nums_new W w' #[(r.1 : Int), hintCode r.2] _ _ (by simp) SH.out.grown.size⟩

set_option maxHeartbeats 4000000 in
set_option maxRecDepth 1000000 in
theorem door_choosePivot_o (w0 : World) (blk off cap n : Nat) (d : Array Int) (w : World) (S : St1 e64 w0 blk off d w) (hn : d.size = n) (hsz : n < 4611686018427387904) (x y : Nat) (h1 : x < y) (h2 : y ≤ n) :
    Calls Tryz.prog 105 #[.slice (some ⟨blk, off, none⟩) n cap, .int .i64 x, .int .i64 y] w fun e w' => e = .returned (.tuple #[.int .i64 (choosePivot ltInt d x y).1, .int .i64 (hintCode (choosePivot ltInt d x y).2)]) ∧ St1 e64 w0 blk off d w' := by
  have hc := choosePivot_o w0 blk off cap n d w S hn hsz x y (by omega) h2
  obtain ⟨r, hr⟩ : ∃ r, r = choosePivot ltInt d x y := ⟨_, rfl⟩
  rw [← hr] at hc ⊢
  clear hr S
  go_enter Tryz.func105, Tryz.ntmps105
  go_wp2_with fail
  refine hc.mono ?_
  rintro e w' ⟨rfl, h⟩
  go_wp2_with fail
  (try simp only [Exit.inBlock, Exit.then]); refine bodyPost_ret (results_tmp2 rfl _ _ _) rfl ?_
  exact ⟨rfl, h⟩

set_option maxHeartbeats 4000000 in
set_option maxRecDepth 1000000 in
theorem by_choosePivot_o (b cap n ncap : Nat) (na : Option Addr) (d : Array Int) (x y : Nat) (hd : d.size = n) (hsz : n < 4611686018427387904) (h1 : x < y) (h2 : y ≤ n) (W : World) (hb : b < W.heap.size) (hH : Holds e64 W b 0 d) (hN : RdN W na #[(x : Int), (y : Int)]) :
    Calls Tryz.prog 45 #[.int .i64 8, .slice (some ⟨b, 0, none⟩) n cap, .slice na 2 ncap] W fun e W' => ∃ nv, e = .returned nv ∧ St1 e64 W b 0 d W' ∧ NumsAt W W' nv #[((choosePivot ltInt d x y).1 : Int), hintCode (choosePivot ltInt d x y).2] := by
  obtain ⟨r, hr⟩ : ∃ r, r = choosePivot ltInt d x y := ⟨_, rfl⟩
  rw [← hr]
  obtain ⟨U, hU⟩ : ∃ U, U = W.alloc (.cells #[.int .i64 0] 3) := ⟨_, rfl⟩
  have BU : Below W.heap.size W U := by rw [hU]; exact below_alloc _ _
  have SV : St1 e64 W b 0 d U.drew := ⟨fun i hi => ⟨(World.cell?_of_block (BU.block b hb)).trans (hH i hi).1, (World.frozen?_of_block (BU.block b hb)).trans (hH i hi).2⟩, Nat.lt_of_lt_of_le hb BU.size, by rw [hU]; exact (World.grownBy_alloc W _ _).trans ⟨rfl, rfl, rfl, Nat.le_refl _, fun _ _ _ => rfl⟩⟩
  have hc := door_choosePivot_o W b 0 cap n d U.drew SV hd hsz x y h1 h2
  rw [← hr] at hc
  obtain ⟨nb, noff, rfl, hnb, hnc⟩ := hN (by simp)
  have n0 := (BU.cell (p := ⟨nb, noff + 0, none⟩) hnb).trans (hnc 0 (by simp))
  have n1 := (BU.cell (p := ⟨nb, noff + 1, none⟩) hnb).trans (hnc 1 (by simp))
  simp at n0 n1
  have hU' : Aside _ := hU
  clear hr hnc SV BU hH hN hnb
  go_enter Tryz.func45, Tryz.ntmps45
  go_upto_region 21 with fail
  rw [← hU]
  clear hU
  refine wp_region_still_mid 7 (by kernel_rfl) (by kernel_rfl) ?_
  intro Q1 hQ1
  simp only [List.take_succ_cons, List.take_zero, List.drop_succ_cons, List.drop_zero] at hQ1 ⊢
  have HQ : Aside _ := hQ1
  clear hQ1
  repeat still_step
  refine wpStill_nil ?_
  change wpList _ _ _ _ _ U.drew
  clear n0 n1 hU'
  generalize U.drew = V at hc ⊢
  go_wp2_with fail
  refine hc.mono ?_
  rintro e w' ⟨rfl, h⟩
  have SH : Aside _ := h
  clear h hc
  go_wp2_with fail
  refine HQ.out _ _ ?_
  clear HQ
  repeat still_step
  refine wpStill_nil ?_
  go_wp2_with fail
  go_ret
  exact ⟨_, rfl, SH.out.alloc _, nums_new W w' #[(r.1 : Int), hintCode r.2] _ _ (by simp) SH.out.grown.size⟩

end Go.Proofs.YtglgmkikegbchaaGreat

/- Inner of choosePivot, whatever the text (printed by gen/law.py). -/
namespace Go.Proofs.YtglgmkikegbchaaGreat
open Go.RowKit Go.Sort

theorem inner_choosePivot (t : Int) (a : Option Addr) (cap : Nat) (d : Array It) (o : Ordr) (na : Option Addr) (ncap : Nat) (X Y : Nat) (h1 : X < Y) (h2 : Y ≤ d.size) (w : World) (h : Rd2 w a d) (hN : RdN w na #[(X : Int), (Y : Int)]) (hsz : d.size ≤ 2000) (hs0 : 0 ≤ o.shift) (hs1 : o.shift < 64) (ht : textB t d o = true) :
    Calls Tryz.prog 28 #[.int .i64 t, .int .i64 8, .slice a d.size cap, vOrd o, .slice na 2 ncap] w (InnerTo w (d) #[((choosePivot (ltC (cfO o)) d X Y).1 : Int), hintCode (choosePivot (ltC (cfO o)) d X Y).2]) := by
  have HO := cmpC_of o hs0 hs1
  refine inner_any t 8 a cap d _ o na 2 ncap _ _ w h hN hsz (rfl) ht many_8 (fun W b c hb hH hN => by_choosePivot_c o HO b c d.size ncap na d X Y rfl (by omega) h1 h2 W hb hH hN) (fun W b c hb hH hN => by_choosePivot_f o HO b c d.size ncap na d X Y rfl (by omega) h1 h2 W hb hH hN) (fun ek ks eb => ?_)
  subst eb
  rw [bare_size] at hsz h2
  have hl := ltC_bare o ek
  have en := nat_choosePivot (fun k => ((k, 0) : It)) rfl (ltC (cfO o)) ltInt hl ks X Y
  unfold bare
  rw [en]
  exact ⟨ks, rfl, fun W b c hb hH hN => by_choosePivot_o b c ks.size ncap na ks X Y rfl (by omega) h1 h2 W hb hH hN⟩
end Go.Proofs.YtglgmkikegbchaaGreat

/- byCompare, byLess, byKeys: order2 (printed by gen/by.py). -/
namespace Go.Proofs.YtglgmkikegbchaaGreat
open Go.RowKit Go.Sort

set_option maxHeartbeats 4000000 in
set_option maxRecDepth 1000000 in
theorem door_order2_c (O : Value) (cf : It → It → Int) (hC : CmpC O cf) (w0 : World) (blk off cap n : Nat) (d : Array It) (w : World) (S : St2 w0 blk off d w) (hn : d.size = n) (hsz : n < 4611686018427387904) (x y : Nat) (h1 : x < n) (h2 : y < n) (sb : Nat) (Q : Box1 w0 w blk sb (.int .i64 (0 : Nat))) :
    Calls Tryz.prog 71 #[.slice (some ⟨blk, off, none⟩) n cap, .int .i64 x, .int .i64 y, .pointer (some ⟨sb, 0, none⟩), .func (.func 43) #[O] #[]] w fun e w' => e = .returned (.tuple #[.int .i64 (order2 (ltC cf) d x y 0).1, .int .i64 (order2 (ltC cf) d x y 0).2.1]) ∧ St2 w0 blk off d w' ∧ Box1 w0 w' blk sb (.int .i64 ((order2 (ltC cf) d x y 0).2.2 : Nat)) := by
  have hc := order2_c O cf hC w0 blk off cap n d w S hn hsz x y sb 0 h1 h2 (by decide) Q
  obtain ⟨r, hr⟩ : ∃ r, r = order2 (ltC cf) d x y 0 := ⟨_, rfl⟩
  rw [← hr] at hc ⊢
  clear hr S Q hC
  go_enter Tryz.func71, Tryz.ntmps71
  go_wp2_with fail
  refine hc.mono ?_
  rintro e w' ⟨rfl, h, hq⟩
  go_wp2_with fail
  (try simp only [Exit.inBlock, Exit.then]); refine bodyPost_ret (results_tmp2 rfl _ _ _) rfl ?_
  exact ⟨rfl, h, hq⟩

set_option maxHeartbeats 4000000 in
set_option maxRecDepth 1000000 in
theorem by_order2_c (o : Ordr) (HO : CmpC (vOrd o) (cfO o)) (b cap n ncap : Nat) (na : Option Addr) (d : Array It) (x y : Nat) (hd : d.size = n) (hsz : n < 4611686018427387904) (h1 : x < n) (h2 : y < n) (W : World) (hb : b < W.heap.size) (hH : Holds2 W b 0 d) (hN : RdN W na #[(x : Int), (y : Int)]) :
    Calls Tryz.prog 42 #[.int .i64 9, .slice (some ⟨b, 0, none⟩) n cap, .func (.func 43) #[vOrd o] #[], .slice na 2 ncap] W fun e W' => ∃ nv, e = .returned nv ∧ St2 W b 0 d W' ∧ NumsAt W W' nv #[((order2 (ltC (cfO o)) d x y 0).1 : Int), ((order2 (ltC (cfO o)) d x y 0).2.1 : Int), ((order2 (ltC (cfO o)) d x y 0).2.2 : Int)] := by
  obtain ⟨r, hr⟩ : ∃ r, r = order2 (ltC (cfO o)) d x y 0 := ⟨_, rfl⟩
  rw [← hr]
  obtain ⟨U, hU⟩ : ∃ U, U = W.alloc (.cells #[.int .i64 0] 3) := ⟨_, rfl⟩
  have BU : Below W.heap.size W U := by rw [hU]; exact below_alloc _ _
  have SV : St2 W b 0 d U.drew := ⟨fun i hi => Holds2_of_block (BU.block b hb) hH i hi, Nat.lt_of_lt_of_le hb BU.size, by rw [hU]; exact (World.grownBy_alloc W _ _).trans ⟨rfl, rfl, rfl, Nat.le_refl _, fun _ _ _ => rfl⟩⟩
  have QV : Box1 W U.drew b W.heap.size (.int .i64 (0 : Nat)) := by rw [hU]; exact (Box1.new W W b _ _ (Nat.le_refl _) hb).drew
  have hc := door_order2_c (vOrd o) (cfO o) HO W b 0 cap n d U.drew SV hd hsz x y h1 h2 W.heap.size QV
  rw [← hr] at hc
  obtain ⟨nb, noff, rfl, hnb, hnc⟩ := hN (by simp)
  have n0 := (BU.cell (p := ⟨nb, noff + 0, none⟩) hnb).trans (hnc 0 (by simp))
  have n1 := (BU.cell (p := ⟨nb, noff + 1, none⟩) hnb).trans (hnc 1 (by simp))
  simp at n0 n1
  have hU' : Aside _ := hU
  clear hr hnc SV BU hH hN hnb QV
  go_enter Tryz.func42, Tryz.ntmps42
  go_upto_region 24 with fail
  rw [← hU]
  clear hU
  refine wp_region_still_mid 8 (by kernel_rfl) (by kernel_rfl) ?_
  intro Q1 hQ1
  simp only [List.take_succ_cons, List.take_zero, List.drop_succ_cons, List.drop_zero] at hQ1 ⊢
  have HQ : Aside _ := hQ1
  clear hQ1
  repeat still_step
  refine wpStill_nil ?_
  change wpList _ _ _ _ _ U.drew
  clear n0 n1 hU'
  generalize U.drew = V at hc ⊢
  go_wp2_with fail
  refine hc.mono ?_
  rintro e w' ⟨rfl, h, hq⟩
  have SH : Aside _ := h
  clear h hc
  have QH : Aside _ := hq
  have qc := QH.out.cell
  clear hq
  go_wp2_with fail
  refine HQ.out _ _ ?_
  clear HQ
  repeat still_step
  refine wpStill_nil ?_
  go_wp2_with fail
  go_ret
  exact ⟨_, rfl, SH.out.alloc _, nums_new W w' #[(r.1 : Int), (r.2.1 : Int), (r.2.2 : Int)] _ _ (by simp) SH.out.grown.size⟩

set_option maxHeartbeats 4000000 in
set_option maxRecDepth 1000000 in
theorem door_order2_f (T : TypeId) (rv : Value) (lt : It → It → Bool) (gl gs : Nat) (rl rs : Value) (w0 : World) (blk off n : Nat) (F : FaceOk T rv lt w0 blk off n gl gs rl rs) (d : Array It) (w : World) (S : St2 w0 blk off d w) (hn : d.size = n) (hsz : n < 4611686018427387904) (x y : Nat) (h1 : x < n) (h2 : y < n) (sb : Nat) (Q : Box1 w0 w blk sb (.int .i64 (0 : Nat))) :
    Calls Tryz.prog 89 #[.iface T rv, .int .i64 x, .int .i64 y, .pointer (some ⟨sb, 0, none⟩)] w fun e w' => e = .returned (.tuple #[.int .i64 (order2 lt d x y 0).1, .int .i64 (order2 lt d x y 0).2.1]) ∧ St2 w0 blk off d w' ∧ Box1 w0 w' blk sb (.int .i64 ((order2 lt d x y 0).2.2 : Nat)) := by
  have hc := order2_f T rv lt gl gs rl rs w0 blk off n F d w S hn hsz x y sb 0 h1 h2 (by decide) Q
  obtain ⟨r, hr⟩ : ∃ r, r = order2 lt d x y 0 := ⟨_, rfl⟩
  rw [← hr] at hc ⊢
  clear hr S Q F
  go_enter Tryz.func89, Tryz.ntmps89
  go_wp2_with fail
  refine hc.mono ?_
  rintro e w' ⟨rfl, h, hq⟩
  go_wp2_with fail
  (try simp only [Exit.inBlock, Exit.then]); refine bodyPost_ret (results_tmp2 rfl _ _ _) rfl ?_
  exact ⟨rfl, h, hq⟩

set_option maxHeartbeats 4000000 in
set_option maxRecDepth 1000000 in
theorem by_order2_f (o : Ordr) (HO : CmpC (vOrd o) (cfO o)) (b cap n ncap : Nat) (na : Option Addr) (d : Array It) (x y : Nat) (hd : d.size = n) (hsz : n < 4611686018427387904) (h1 : x < n) (h2 : y < n) (W : World) (hb : b < W.heap.size) (hH : Holds2 W b 0 d) (hN : RdN W na #[(x : Int), (y : Int)]) :
    Calls Tryz.prog 44 #[.int .i64 9, .agg #[.slice (some ⟨b, 0, none⟩) n cap, .int .i64 o.kind, .int .i64 o.shift, .int .u64 o.m0, .int .u64 o.m1, .int .u64 o.m2], .slice na 2 ncap] W fun e W' => ∃ nv, e = .returned nv ∧ St2 W b 0 d W' ∧ NumsAt W W' nv #[((order2 (ltC (cfO o)) d x y 0).1 : Int), ((order2 (ltC (cfO o)) d x y 0).2.1 : Int), ((order2 (ltC (cfO o)) d x y 0).2.2 : Int)] := by
  obtain ⟨r, hr⟩ : ∃ r, r = order2 (ltC (cfO o)) d x y 0 := ⟨_, rfl⟩
  rw [← hr]
  obtain ⟨k, s, m0, m1, m2⟩ := o
  obtain ⟨U, hU⟩ : ∃ U, U = (W.alloc (.cells #[.slice (some ⟨b, 0, none⟩) n cap, .int .i64 k, .int .i64 s, .int .u64 m0, .int .u64 m1, .int .u64 m2] 61)).alloc (.cells #[.int .i64 0] 3) := ⟨_, rfl⟩
  have BU : Below W.heap.size W U := by rw [hU]; exact Below.next (below_alloc _ _) (below_alloc _ _)
  have SV : St2 W b 0 d U.drew := ⟨fun i hi => Holds2_of_block (BU.block b hb) hH i hi, Nat.lt_of_lt_of_le hb BU.size, by rw [hU]; exact ((World.grownBy_alloc W _ _).trans (World.grownBy_alloc _ _ _)).trans ⟨rfl, rfl, rfl, Nat.le_refl _, fun _ _ _ => rfl⟩⟩
  have e1 : (W.alloc (.cells #[.slice (some ⟨b, 0, none⟩) n cap, .int .i64 k, .int .i64 s, .int .u64 m0, .int .u64 m1, .int .u64 m2] 61)).heap.size = W.heap.size + 1 := by simp
  have QV : Box1 W U.drew b (W.heap.size + 1) (.int .i64 (0 : Nat)) := by rw [hU, ← e1]; exact (Box1.new W (W.alloc (.cells #[.slice (some ⟨b, 0, none⟩) n cap, .int .i64 k, .int .i64 s, .int .u64 m0, .int .u64 m1, .int .u64 m2] 61)) b _ _ (by simp) (by simp; omega)).drew
  have hc := door_order2_f 61 (vFace b cap n ⟨k, s, m0, m1, m2⟩) (ltC (cfO ⟨k, s, m0, m1, m2⟩)) 197 198 (vFace b cap n ⟨k, s, m0, m1, m2⟩) (vFace b cap n ⟨k, s, m0, m1, m2⟩) W b 0 n (face_ok ⟨k, s, m0, m1, m2⟩ HO W b cap n) d U.drew SV hd hsz x y h1 h2 (W.heap.size + 1) QV
  rw [← hr] at hc
  obtain ⟨nb, noff, rfl, hnb, hnc⟩ := hN (by simp)
  have n0 := (BU.cell (p := ⟨nb, noff + 0, none⟩) hnb).trans (hnc 0 (by simp))
  have n1 := (BU.cell (p := ⟨nb, noff + 1, none⟩) hnb).trans (hnc 1 (by simp))
  simp at n0 n1
  have hbox : U.heap[W.heap.size]? = some (.cells #[.slice (some ⟨b, 0, none⟩) n cap, .int .i64 k, .int .i64 s, .int .u64 m0, .int .u64 m1, .int .u64 m2] 61 (0, 0)) := by rw [hU]; exact (heap_alloc_old _ _ (by simp)).trans (heap_alloc_new _ _)
  have q0 := cell_at (i := 0) hbox rfl
  have q1 := cell_at (i := 1) hbox rfl
  have q2 := cell_at (i := 2) hbox rfl
  have q3 := cell_at (i := 3) hbox rfl
  have q4 := cell_at (i := 4) hbox rfl
  have q5 := cell_at (i := 5) hbox rfl
  clear hbox
  have hU' : Aside _ := hU
  clear hr hnc SV BU hH hN hnb QV e1
  go_enter Tryz.func44, Tryz.ntmps44
  go_upto_region 24 with fail
  rw [← hU]
  clear hU
  refine wp_region_still_mid 8 (by kernel_rfl) (by kernel_rfl) ?_
  intro Q1 hQ1
  simp only [List.take_succ_cons, List.take_zero, List.drop_succ_cons, List.drop_zero] at hQ1 ⊢
  have HQ : Aside _ := hQ1
  clear hQ1
  repeat still_step
  refine wpStill_nil ?_
  change wpList _ _ _ _ _ U.drew
  clear n0 n1 q0 q1 q2 q3 q4 q5 hU'
  generalize U.drew = V at hc ⊢
  go_wp2_with fail
  refine hc.mono ?_
  rintro e w' ⟨rfl, h, hq⟩
  have SH : Aside _ := h
  clear h hc
  have QH : Aside _ := hq
  have qc := QH.out.cell
  clear hq
  go_wp2_with fail
  refine HQ.out _ _ ?_
  clear HQ
  repeat still_step
  refine wpStill_nil ?_
  go_wp2_with fail
  go_ret
  exact ⟨_, rfl, SH.out.alloc _, nums_new W w' #[(r.1 : Int), (r.2.1 : Int), (r.2.2 : Int)] _ _ (by simp) SH.out.grown.size⟩

set_option maxHeartbeats 4000000 in
set_option maxRecDepth 1000000 in
theorem door_order2_o (w0 : World) (blk off cap n : Nat) (d : Array Int) (w : World) (S : St1 e64 w0 blk off d w) (hn : d.size = n) (hsz : n < 4611686018427387904) (x y : Nat) (h1 : x < n) (h2 : y < n) (sb : Nat) (Q : Box1 w0 w blk sb (.int .i64 (0 : Nat))) :
    Calls Tryz.prog 106 #[.slice (some ⟨blk, off, none⟩) n cap, .int .i64 x, .int .i64 y, .pointer (some ⟨sb, 0, none⟩)] w fun e w' => e = .returned (.tuple #[.int .i64 (order2 ltInt d x y 0).1, .int .i64 (order2 ltInt d x y 0).2.1]) ∧ St1 e64 w0 blk off d w' ∧ Box1 w0 w' blk sb (.int .i64 ((order2 ltInt d x y 0).2.2 : Nat)) := by
  have hc := order2_o w0 blk off cap n d w S hn hsz x y sb 0 h1 h2 (by decide) Q
  obtain ⟨r, hr⟩ : ∃ r, r = order2 ltInt d x y 0 := ⟨_, rfl⟩
  rw [← hr] at hc ⊢
  clear hr S Q
  go_enter Tryz.func106, Tryz.ntmps106
  go_wp2_with fail
  refine hc.mono ?_
  rintro e w' ⟨rfl, h, hq⟩
  go_wp2_with fail
  (try simp only [Exit.inBlock, Exit.then]); refine bodyPost_ret (results_tmp2 rfl _ _ _) rfl ?_
  exact ⟨rfl, h, hq⟩

set_option maxHeartbeats 4000000 in
set_option maxRecDepth 1000000 in
theorem by_order2_o (b cap n ncap : Nat) (na : Option Addr) (d : Array Int) (x y : Nat) (hd : d.size = n) (hsz : n < 4611686018427387904) (h1 : x < n) (h2 : y < n) (W : World) (hb : b < W.heap.size) (hH : Holds e64 W b 0 d) (hN : RdN W na #[(x : Int), (y : Int)]) :
    Calls Tryz.prog 45 #[.int .i64 9, .slice (some ⟨b, 0, none⟩) n cap, .slice na 2 ncap] W fun e W' => ∃ nv, e = .returned nv ∧ St1 e64 W b 0 d W' ∧ NumsAt W W' nv #[((order2 ltInt d x y 0).1 : Int), ((order2 ltInt d x y 0).2.1 : Int), ((order2 ltInt d x y 0).2.2 : Int)] := by
  obtain ⟨r, hr⟩ : ∃ r, r = order2 ltInt d x y 0 := ⟨_, rfl⟩
  rw [← hr]
  obtain ⟨U, hU⟩ : ∃ U, U = W.alloc (.cells #[.int .i64 0] 3) := ⟨_, rfl⟩
  have BU : Below W.heap.size W U := by rw [hU]; exact below_alloc _ _
  have SV : St1 e64 W b 0 d U.drew := ⟨fun i hi => ⟨(World.cell?_of_block (BU.block b hb)).trans (hH i hi).1, (World.frozen?_of_block (BU.block b hb)).trans (hH i hi).2⟩, Nat.lt_of_lt_of_le hb BU.size, by rw [hU]; exact (World.grownBy_alloc W _ _).trans ⟨rfl, rfl, rfl, Nat.le_refl _, fun _ _ _ => rfl⟩⟩
  have QV : Box1 W U.drew b W.heap.size (.int .i64 (0 : Nat)) := by rw [hU]; exact (Box1.new W W b _ _ (Nat.le_refl _) hb).drew
  have hc := door_order2_o W b 0 cap n d U.drew SV hd hsz x y h1 h2 W.heap.size QV
  rw [← hr] at hc
  obtain ⟨nb, noff, rfl, hnb, hnc⟩ := hN (by simp)
  have n0 := (BU.cell (p := ⟨nb, noff + 0, none⟩) hnb).trans (hnc 0 (by simp))
  have n1 := (BU.cell (p := ⟨nb, noff + 1, none⟩) hnb).trans (hnc 1 (by simp))
  simp at n0 n1
  have hU' : Aside _ := hU
  clear hr hnc SV BU hH hN hnb QV
  go_enter Tryz.func45, Tryz.ntmps45
  go_upto_region 24 with fail
  rw [← hU]
  clear hU
  refine wp_region_still_mid 7 (by kernel_rfl) (by kernel_rfl) ?_
  intro Q1 hQ1
  simp only [List.take_succ_cons, List.take_zero, List.drop_succ_cons, List.drop_zero] at hQ1 ⊢
  have HQ : Aside _ := hQ1
  clear hQ1
  repeat still_step
  refine wpStill_nil ?_
  change wpList _ _ _ _ _ U.drew
  clear n0 n1 hU'
  generalize U.drew = V at hc ⊢
  go_wp2_with fail
  refine hc.mono ?_
  rintro e w' ⟨rfl, h, hq⟩
  have SH : Aside _ := h
  clear h hc
  have QH : Aside _ := hq
  have qc := QH.out.cell
  clear hq
  go_wp2_with fail
  refine HQ.out _ _ ?_
  clear HQ
  repeat still_step
  refine wpStill_nil ?_
  go_wp2_with fail
  go_ret
  exact ⟨_, rfl, SH.out.alloc _, nums_new W w' #[(r.1 : Int), (r.2.1 : Int), (r.2.2 : Int)] _ _ (by simp) SH.out.grown.size⟩

end Go.Proofs.YtglgmkikegbchaaGreat

/- Inner of order2, whatever the text (printed by gen/law.py). -/
namespace Go.Proofs.YtglgmkikegbchaaGreat
open Go.RowKit Go.Sort

theorem inner_order2 (t : Int) (a : Option Addr) (cap : Nat) (d : Array It) (o : Ordr) (na : Option Addr) (ncap : Nat) (X Y : Nat) (h1 : X < d.size) (h2 : Y < d.size) (w : World) (h : Rd2 w a d) (hN : RdN w na #[(X : Int), (Y : Int)]) (hsz : d.size ≤ 2000) (hs0 : 0 ≤ o.shift) (hs1 : o.shift < 64) (ht : textB t d o = true) :
    Calls Tryz.prog 28 #[.int .i64 t, .int .i64 9, .slice a d.size cap, vOrd o, .slice na 2 ncap] w (InnerTo w (d) #[((order2 (ltC (cfO o)) d X Y 0).1 : Int), ((order2 (ltC (cfO o)) d X Y 0).2.1 : Int), ((order2 (ltC (cfO o)) d X Y 0).2.2 : Int)]) := by
  have HO := cmpC_of o hs0 hs1
  refine inner_any t 9 a cap d _ o na 2 ncap _ _ w h hN hsz (rfl) ht many_9 (fun W b c hb hH hN => by_order2_c o HO b c d.size ncap na d X Y rfl (by omega) h1 h2 W hb hH hN) (fun W b c hb hH hN => by_order2_f o HO b c d.size ncap na d X Y rfl (by omega) h1 h2 W hb hH hN) (fun ek ks eb => ?_)
  subst eb
  rw [bare_size] at hsz h1 h2
  have hl := ltC_bare o ek
  have en := nat_order2 (fun k => ((k, 0) : It)) rfl (ltC (cfO o)) ltInt hl ks X Y 0
  unfold bare
  rw [en]
  exact ⟨ks, rfl, fun W b c hb hH hN => by_order2_o b c ks.size ncap na ks X Y rfl (by omega) h1 h2 W hb hH hN⟩
end Go.Proofs.YtglgmkikegbchaaGreat

/- byCompare, byLess, byKeys: partialInsertionSort (printed by gen/by.py). -/
namespace Go.Proofs.YtglgmkikegbchaaGreat
open Go.RowKit Go.Sort

set_option maxHeartbeats 4000000 in
set_option maxRecDepth 1000000 in
theorem door_partialInsertionSort_c (O : Value) (cf : It → It → Int) (hC : CmpC O cf) (w0 : World) (blk off cap n : Nat) (d : Array It) (w : World) (S : St2 w0 blk off d w) (hn : d.size = n) (hsz : n < 4611686018427387904) (x y : Nat) (h1 : x < y) (h2 : y ≤ n) :
    Calls Tryz.prog 68 #[.slice (some ⟨blk, off, none⟩) n cap, .int .i64 x, .int .i64 y, .func (.func 43) #[O] #[]] w fun e w' => e = .returned (.bool (partialInsertionSort (ltC cf) d x y).2) ∧ St2 w0 blk off (partialInsertionSort (ltC cf) d x y).1 w' := by
  have hc := partialInsertionSort_c O cf hC w0 blk off cap n d w S hn hsz x y h1 h2
  obtain ⟨r, hr⟩ : ∃ r, r = partialInsertionSort (ltC cf) d x y := ⟨_, rfl⟩
  rw [← hr] at hc ⊢
  clear hr S hC
  go_enter Tryz.func68, Tryz.ntmps68
  go_wp2_with fail
  refine hc.mono ?_
  rintro e w' ⟨rfl, h⟩
  go_wp2_with fail
  go_ret
  exact ⟨rfl, h⟩

set_option maxHeartbeats 4000000 in
set_option maxRecDepth 1000000 in
theorem by_partialInsertionSort_c (o : Ordr) (HO : CmpC (vOrd o) (cfO o)) (b cap n ncap : Nat) (na : Option Addr) (d : Array It) (x y : Nat) (hd : d.size = n) (hsz : n < 4611686018427387904) (h1 : x < y) (h2 : y ≤ n) (W : World) (hb : b < W.heap.size) (hH : Holds2 W b 0 d) (hN : RdN W na #[(x : Int), (y : Int)]) :
    Calls Tryz.prog 42 #[.int .i64 6, .slice (some ⟨b, 0, none⟩) n cap, .func (.func 43) #[vOrd o] #[], .slice na 2 ncap] W fun e W' => ∃ nv, e = .returned nv ∧ St2 W b 0 (partialInsertionSort (ltC (cfO o)) d x y).1 W' ∧ NumsAt W W' nv #[flagN (partialInsertionSort (ltC (cfO o)) d x y).2] := by
  obtain ⟨r, hr⟩ : ∃ r, r = partialInsertionSort (ltC (cfO o)) d x y := ⟨_, rfl⟩
  rw [← hr]
  obtain ⟨U, hU⟩ : ∃ U, U = W.alloc (.cells #[.int .i64 0] 3) := ⟨_, rfl⟩
  have BU : Below W.heap.size W U := by rw [hU]; exact below_alloc _ _
  have SV : St2 W b 0 d U.drew := ⟨fun i hi => Holds2_of_block (BU.block b hb) hH i hi, Nat.lt_of_lt_of_le hb BU.size, by rw [hU]; exact (World.grownBy_alloc W _ _).trans ⟨rfl, rfl, rfl, Nat.le_refl _, fun _ _ _ => rfl⟩⟩
  have hc := door_partialInsertionSort_c (vOrd o) (cfO o) HO W b 0 cap n d U.drew SV hd hsz x y h1 h2
  rw [← hr] at hc
  obtain ⟨nb, noff, rfl, hnb, hnc⟩ := hN (by simp)
  have n0 := (BU.cell (p := ⟨nb, noff + 0, none⟩) hnb).trans (hnc 0 (by simp))
  have n1 := (BU.cell (p := ⟨nb, noff + 1, none⟩) hnb).trans (hnc 1 (by simp))
  simp at n0 n1
  have hU' : Aside _ := hU
  clear hr hnc SV BU hH hN hnb
  go_enter Tryz.func42, Tryz.ntmps42
  go_upto_region 17 with fail
  rw [← hU]
  clear hU
  go_still_tail 8, (by kernel_rfl)
  change wpList _ _ _ _ _ U.drew
  clear n0 n1 hU'
  generalize U.drew = V at hc ⊢
  go_wp2_with fail
  refine hc.mono ?_
  rintro e w' ⟨rfl, h⟩
  have SH : Aside _ := h
  clear h hc
  go_wp2_with (first | (go_at_call 66; refine (flag_calls _ _).mono ?_; rintro e w'' ⟨rfl, rfl⟩))
  go_ret
  exact ⟨_, rfl, SH.out.alloc _, nums_new W _ #[flagN r.2] _ _ (by simp) SH.out.grown.size⟩

set_option maxHeartbeats 4000000 in
set_option maxRecDepth 1000000 in
theorem door_partialInsertionSort_f (T : TypeId) (rv : Value) (lt : It → It → Bool) (gl gs : Nat) (rl rs : Value) (w0 : World) (blk off n : Nat) (F : FaceOk T rv lt w0 blk off n gl gs rl rs) (d : Array It) (w : World) (S : St2 w0 blk off d w) (hn : d.size = n) (hsz : n < 4611686018427387904) (x y : Nat) (h1 : x < y) (h2 : y ≤ n) :
    Calls Tryz.prog 86 #[.iface T rv, .int .i64 x, .int .i64 y] w fun e w' => e = .returned (.bool (partialInsertionSort lt d x y).2) ∧ St2 w0 blk off (partialInsertionSort lt d x y).1 w' := by
  have hc := partialInsertionSort_f T rv lt gl gs rl rs w0 blk off n F d w S hn hsz x y h1 h2
  obtain ⟨r, hr⟩ : ∃ r, r = partialInsertionSort lt d x y := ⟨_, rfl⟩
  rw [← hr] at hc ⊢
  clear hr S F
  go_enter Tryz.func86, Tryz.ntmps86
  go_wp2_with fail
  refine hc.mono ?_
  rintro e w' ⟨rfl, h⟩
  go_wp2_with fail
  go_ret
  exact ⟨rfl, h⟩

set_option maxHeartbeats 4000000 in
set_option maxRecDepth 1000000 in
theorem by_partialInsertionSort_f (o : Ordr) (HO : CmpC (vOrd o) (cfO o)) (b cap n ncap : Nat) (na : Option Addr) (d : Array It) (x y : Nat) (hd : d.size = n) (hsz : n < 4611686018427387904) (h1 : x < y) (h2 : y ≤ n) (W : World) (hb : b < W.heap.size) (hH : Holds2 W b 0 d) (hN : RdN W na #[(x : Int), (y : Int)]) :
    Calls Tryz.prog 44 #[.int .i64 6, .agg #[.slice (some ⟨b, 0, none⟩) n cap, .int .i64 o.kind, .int .i64 o.shift, .int .u64 o.m0, .int .u64 o.m1, .int .u64 o.m2], .slice na 2 ncap] W fun e W' => ∃ nv, e = .returned nv ∧ St2 W b 0 (partialInsertionSort (ltC (cfO o)) d x y).1 W' ∧ NumsAt W W' nv #[flagN (partialInsertionSort (ltC (cfO o)) d x y).2] := by
  obtain ⟨r, hr⟩ : ∃ r, r = partialInsertionSort (ltC (cfO o)) d x y := ⟨_, rfl⟩
  rw [← hr]
  obtain ⟨k, s, m0, m1, m2⟩ := o
  obtain ⟨U, hU⟩ : ∃ U, U = (W.alloc (.cells #[.slice (some ⟨b, 0, none⟩) n cap, .int .i64 k, .int .i64 s, .int .u64 m0, .int .u64 m1, .int .u64 m2] 61)).alloc (.cells #[.int .i64 0] 3) := ⟨_, rfl⟩
  have BU : Below W.heap.size W U := by rw [hU]; exact Below.next (below_alloc _ _) (below_alloc _ _)
  have SV : St2 W b 0 d U.drew := ⟨fun i hi => Holds2_of_block (BU.block b hb) hH i hi, Nat.lt_of_lt_of_le hb BU.size, by rw [hU]; exact ((World.grownBy_alloc W _ _).trans (World.grownBy_alloc _ _ _)).trans ⟨rfl, rfl, rfl, Nat.le_refl _, fun _ _ _ => rfl⟩⟩
  have hc := door_partialInsertionSort_f 61 (vFace b cap n ⟨k, s, m0, m1, m2⟩) (ltC (cfO ⟨k, s, m0, m1, m2⟩)) 197 198 (vFace b cap n ⟨k, s, m0, m1, m2⟩) (vFace b cap n ⟨k, s, m0, m1, m2⟩) W b 0 n (face_ok ⟨k, s, m0, m1, m2⟩ HO W b cap n) d U.drew SV hd hsz x y h1 h2
  rw [← hr] at hc
  obtain ⟨nb, noff, rfl, hnb, hnc⟩ := hN (by simp)
  have n0 := (BU.cell (p := ⟨nb, noff + 0, none⟩) hnb).trans (hnc 0 (by simp))
  have n1 := (BU.cell (p := ⟨nb, noff + 1, none⟩) hnb).trans (hnc 1 (by simp))
  simp at n0 n1
  have hbox : U.heap[W.heap.size]? = some (.cells #[.slice (some ⟨b, 0, none⟩) n cap, .int .i64 k, .int .i64 s, .int .u64 m0, .int .u64 m1, .int .u64 m2] 61 (0, 0)) := by rw [hU]; exact (heap_alloc_old _ _ (by simp)).trans (heap_alloc_new _ _)
  have q0 := cell_at (i := 0) hbox rfl
  have q1 := cell_at (i := 1) hbox rfl
  have q2 := cell_at (i := 2) hbox rfl
  have q3 := cell_at (i := 3) hbox rfl
  have q4 := cell_at (i := 4) hbox rfl
  have q5 := cell_at (i := 5) hbox rfl
  clear hbox
  have hU' : Aside _ := hU
  clear hr hnc SV BU hH hN hnb
  go_enter Tryz.func44, Tryz.ntmps44
  go_upto_region 17 with fail
  rw [← hU]
  clear hU
  go_still_tail 8, (by kernel_rfl)
  change wpList _ _ _ _ _ U.drew
  clear n0 n1 q0 q1 q2 q3 q4 q5 hU'
  generalize U.drew = V at hc ⊢
  go_wp2_with fail
  refine hc.mono ?_
  rintro e w' ⟨rfl, h⟩
  have SH : Aside _ := h
  clear h hc
  go_wp2_with (first | (go_at_call 66; refine (flag_calls _ _).mono ?_; rintro e w'' ⟨rfl, rfl⟩))
  go_ret
  exact ⟨_, rfl, SH.out.alloc _, nums_new W _ #[flagN r.2] _ _ (by simp) SH.out.grown.size⟩

set_option maxHeartbeats 4000000 in
set_option maxRecDepth 1000000 in
theorem door_partialInsertionSort_o (w0 : World) (blk off cap n : Nat) (d : Array Int) (w : World) (S : St1 e64 w0 blk off d w) (hn : d.size = n) (hsz : n < 4611686018427387904) (x y : Nat) (h1 : x < y) (h2 : y ≤ n) :
    Calls Tryz.prog 103 #[.slice (some ⟨blk, off, none⟩) n cap, .int .i64 x, .int .i64 y] w fun e w' => e = .returned (.bool (partialInsertionSort ltInt d x y).2) ∧ St1 e64 w0 blk off (partialInsertionSort ltInt d x y).1 w' := by
  have hc := partialInsertionSort_o w0 blk off cap n d w S hn hsz x y h1 h2
  obtain ⟨r, hr⟩ : ∃ r, r = partialInsertionSort ltInt d x y := ⟨_, rfl⟩
  rw [← hr] at hc ⊢
  clear hr S
  go_enter Tryz.func103, Tryz.ntmps103
  go_wp2_with fail
  refine hc.mono ?_
  rintro e w' ⟨rfl, h⟩
  go_wp2_with fail
  go_ret
  exact ⟨rfl, h⟩

set_option maxHeartbeats 4000000 in
set_option maxRecDepth 1000000 in
theorem by_partialInsertionSort_o (b cap n ncap : Nat) (na : Option Addr) (d : Array Int) (x y : Nat) (hd : d.size = n) (hsz : n < 4611686018427387904) (h1 : x < y) (h2 : y ≤ n) (W : World) (hb : b < W.heap.size) (hH : Holds e64 W b 0 d) (hN : RdN W na #[(x : Int), (y : Int)]) :
    Calls Tryz.prog 45 #[.int .i64 6, .slice (some ⟨b, 0, none⟩) n cap, .slice na 2 ncap] W fun e W' => ∃ nv, e = .returned nv ∧ St1 e64 W b 0 (partialInsertionSort ltInt d x y).1 W' ∧ NumsAt W W' nv #[flagN (partialInsertionSort ltInt d x y).2] := by
  obtain ⟨r, hr⟩ : ∃ r, r = partialInsertionSort ltInt d x y := ⟨_, rfl⟩
  rw [← hr]
  obtain ⟨U, hU⟩ : ∃ U, U = W.alloc (.cells #[.int .i64 0] 3) := ⟨_, rfl⟩
  have BU : Below W.heap.size W U := by rw [hU]; exact below_alloc _ _
  have SV : St1 e64 W b 0 d U.drew := ⟨fun i hi => ⟨(World.cell?_of_block (BU.block b hb)).trans (hH i hi).1, (World.frozen?_of_block (BU.block b hb)).trans (hH i hi).2⟩, Nat.lt_of_lt_of_le hb BU.size, by rw [hU]; exact (World.grownBy_alloc W _ _).trans ⟨rfl, rfl, rfl, Nat.le_refl _, fun _ _ _ => rfl⟩⟩
  have hc := door_partialInsertionSort_o W b 0 cap n d U.drew SV hd hsz x y h1 h2
  rw [← hr] at hc
  obtain ⟨nb, noff, rfl, hnb, hnc⟩ := hN (by simp)
  have n0 := (BU.cell (p := ⟨nb, noff + 0, none⟩) hnb).trans (hnc 0 (by simp))
  have n1 := (BU.cell (p := ⟨nb, noff + 1, none⟩) hnb).trans (hnc 1 (by simp))
  simp at n0 n1
  have hU' : Aside _ := hU
  clear hr hnc SV BU hH hN hnb
  go_enter Tryz.func45, Tryz.ntmps45
  go_upto_region 17 with fail
  rw [← hU]
  clear hU
  go_still_tail 7, (by kernel_rfl)
  change wpList _ _ _ _ _ U.drew
  clear n0 n1 hU'
  generalize U.drew = V at hc ⊢
  go_wp2_with fail
  refine hc.mono ?_
  rintro e w' ⟨rfl, h⟩
  have SH : Aside _ := h
  clear h hc
  go_wp2_with (first | (go_at_call 66; refine (flag_calls _ _).mono ?_; rintro e w'' ⟨rfl, rfl⟩))
  go_ret
  exact ⟨_, rfl, SH.out.alloc _, nums_new W _ #[flagN r.2] _ _ (by simp) SH.out.grown.size⟩

end Go.Proofs.YtglgmkikegbchaaGreat

/- Inner of partialInsertionSort, whatever the text (printed by gen/law.py). -/
namespace Go.Proofs.YtglgmkikegbchaaGreat
open Go.RowKit Go.Sort

theorem inner_partialInsertionSort (t : Int) (a : Option Addr) (cap : Nat) (d : Array It) (o : Ordr) (na : Option Addr) (ncap : Nat) (X Y : Nat) (h1 : X < Y) (h2 : Y ≤ d.size) (w : World) (h : Rd2 w a d) (hN : RdN w na #[(X : Int), (Y : Int)]) (hsz : d.size ≤ 2000) (hs0 : 0 ≤ o.shift) (hs1 : o.shift < 64) (ht : textB t d o = true) :
    Calls Tryz.prog 28 #[.int .i64 t, .int .i64 6, .slice a d.size cap, vOrd o, .slice na 2 ncap] w (InnerTo w ((partialInsertionSort (ltC (cfO o)) d X Y).1) #[flagN (partialInsertionSort (ltC (cfO o)) d X Y).2]) := by
  have HO := cmpC_of o hs0 hs1
  refine inner_any t 6 a cap d _ o na 2 ncap _ _ w h hN hsz (size_partialInsertionSort (ltC (cfO o)) d X Y h1 h2) ht many_6 (fun W b c hb hH hN => by_partialInsertionSort_c o HO b c d.size ncap na d X Y rfl (by omega) h1 h2 W hb hH hN) (fun W b c hb hH hN => by_partialInsertionSort_f o HO b c d.size ncap na d X Y rfl (by omega) h1 h2 W hb hH hN) (fun ek ks eb => ?_)
  subst eb
  rw [bare_size] at hsz h2
  have hl := ltC_bare o ek
  have en := nat_partialInsertionSort (fun k => ((k, 0) : It)) rfl (ltC (cfO o)) ltInt hl ks X Y
  unfold bare
  rw [en]
  exact ⟨(partialInsertionSort ltInt ks X Y).1, rfl, fun W b c hb hH hN => by_partialInsertionSort_o b c ks.size ncap na ks X Y rfl (by omega) h1 h2 W hb hH hN⟩
end Go.Proofs.YtglgmkikegbchaaGreat

/- byCompare, byLess, byKeys: partition (printed by gen/by.py). -/
namespace Go.Proofs.YtglgmkikegbchaaGreat
open Go.RowKit Go.Sort

set_option maxHeartbeats 4000000 in
set_option maxRecDepth 1000000 in
theorem door_partition_c (O : Value) (cf : It → It → Int) (hC : CmpC O cf) (w0 : World) (blk off cap n : Nat) (d : Array It) (w : World) (S : St2 w0 blk off d w) (hn : d.size = n) (hsz : n < 4611686018427387904) (x y z : Nat) (_h1 : x ≤ y) (h2 : y ≤ n) (h3 : x ≤ z) (h4 : z < y) :
    Calls Tryz.prog 65 #[.slice (some ⟨blk, off, none⟩) n cap, .int .i64 x, .int .i64 y, .int .i64 z, .func (.func 43) #[O] #[]] w fun e w' => e = .returned (.tuple #[.int .i64 (partition (ltC cf) d x y z).1, .bool (partition (ltC cf) d x y z).2.1]) ∧ St2 w0 blk off (partition (ltC cf) d x y z).2.2 w' := by
  have hc := partition_c O cf hC w0 blk off cap n d w S hn hsz x y z h3 h4 h2
  obtain ⟨r, hr⟩ : ∃ r, r = partition (ltC cf) d x y z := ⟨_, rfl⟩
  rw [← hr] at hc ⊢
  clear hr S hC
  go_enter Tryz.func65, Tryz.ntmps65
  go_wp2_with fail
  refine hc.mono ?_
  rintro e w' ⟨rfl, h⟩
  go_wp2_with fail
  (try simp only [Exit.inBlock, Exit.then]); refine bodyPost_ret (results_tmp2 rfl _ _ _) rfl ?_
  exact ⟨rfl, h⟩

set_option maxHeartbeats 4000000 in
set_option maxRecDepth 1000000 in
theorem by_partition_c (o : Ordr) (HO : CmpC (vOrd o) (cfO o)) (b cap n ncap : Nat) (na : Option Addr) (d : Array It) (x y z : Nat) (hd : d.size = n) (hsz : n < 4611686018427387904) (_h1 : x ≤ y) (h2 : y ≤ n) (h3 : x ≤ z) (h4 : z < y) (W : World) (hb : b < W.heap.size) (hH : Holds2 W b 0 d) (hN : RdN W na #[(x : Int), (y : Int), (z : Int)]) :
    Calls Tryz.prog 42 #[.int .i64 4, .slice (some ⟨b, 0, none⟩) n cap, .func (.func 43) #[vOrd o] #[], .slice na 3 ncap] W fun e W' => ∃ nv, e = .returned nv ∧ St2 W b 0 (partition (ltC (cfO o)) d x y z).2.2 W' ∧ NumsAt W W' nv #[((partition (ltC (cfO o)) d x y z).1 : Int), flagN (partition (ltC (cfO o)) d x y z).2.1] := by
  obtain ⟨r, hr⟩ : ∃ r, r = partition (ltC (cfO o)) d x y z := ⟨_, rfl⟩
  rw [← hr]
  obtain ⟨U, hU⟩ : ∃ U, U = W.alloc (.cells #[.int .i64 0] 3) := ⟨_, rfl⟩
  have BU : Below W.heap.size W U := by rw [hU]; exact below_alloc _ _
  have SV : St2 W b 0 d U.drew := ⟨fun i hi => Holds2_of_block (BU.block b hb) hH i hi, Nat.lt_of_lt_of_le hb BU.size, by rw [hU]; exact (World.grownBy_alloc W _ _).trans ⟨rfl, rfl, rfl, Nat.le_refl _, fun _ _ _ => rfl⟩⟩
  have hc := door_partition_c (vOrd o) (cfO o) HO W b 0 cap n d U.drew SV hd hsz x y z _h1 h2 h3 h4
  rw [← hr] at hc
  obtain ⟨nb, noff, rfl, hnb, hnc⟩ := hN (by simp)
  have n0 := (BU.cell (p := ⟨nb, noff + 0, none⟩) hnb).trans (hnc 0 (by simp))
  have n1 := (BU.cell (p := ⟨nb, noff + 1, none⟩) hnb).trans (hnc 1 (by simp))
  have n2 := (BU.cell (p := ⟨nb, noff + 2, none⟩) hnb).trans (hnc 2 (by simp))
  simp at n0 n1 n2
  have hU' : Aside _ := hU
  clear hr hnc SV BU hH hN hnb
  go_enter Tryz.func42, Tryz.ntmps42
  go_upto_region 12 with fail
  rw [← hU]
  clear hU
  refine wp_region_still_mid 11 (by kernel_rfl) (by kernel_rfl) ?_
  intro Q1 hQ1
  simp only [List.take_succ_cons, List.take_zero, List.drop_succ_cons, List.drop_zero] at hQ1 ⊢
  have HQ : Aside _ := hQ1
  clear hQ1
  repeat still_step
  refine wpStill_nil ?_
  change wpList _ _ _ _ _ U.drew
  clear n0 n1 n2 hU'
  generalize U.drew = V at hc ⊢
  go_wp2_with fail
  refine hc.mono ?_
  rintro e w' ⟨rfl, h⟩
  have SH : Aside _ := h
  clear h hc
  go_wp2_with fail
  refine HQ.out _ _ ?_
  clear HQ
  repeat still_step
  refine wpStill_nil ?_
  go_wp2_with (first | (go_at_call 66; refine (flag_calls _ _).mono ?_; rintro e w'' ⟨rfl, rfl⟩))
  go_ret
  exact ⟨_, rfl, SH.out.alloc _, nums_new W _ #[(r.1 : Int), flagN r.2.1] _ _ (by simp) SH.out.grown.size⟩

set_option maxHeartbeats 4000000 in
set_option maxRecDepth 1000000 in
theorem door_partition_f (T : TypeId) (rv : Value) (lt : It → It → Bool) (gl gs : Nat) (rl rs : Value) (w0 : World) (blk off n : Nat) (F : FaceOk T rv lt w0 blk off n gl gs rl rs) (d : Array It) (w : World) (S : St2 w0 blk off d w) (hn : d.size = n) (hsz : n < 4611686018427387904) (x y z : Nat) (_h1 : x ≤ y) (h2 : y ≤ n) (h3 : x ≤ z) (h4 : z < y) :
    Calls Tryz.prog 84 #[.iface T rv, .int .i64 x, .int .i64 y, .int .i64 z] w fun e w' => e = .returned (.tuple #[.int .i64 (partition lt d x y z).1, .bool (partition lt d x y z).2.1]) ∧ St2 w0 blk off (partition lt d x y z).2.2 w' := by
  have hc := partition_f T rv lt gl gs rl rs w0 blk off n F d w S hn hsz x y z h3 h4 h2
  obtain ⟨r, hr⟩ : ∃ r, r = partition lt d x y z := ⟨_, rfl⟩
  rw [← hr] at hc ⊢
  clear hr S F
  go_enter Tryz.func84, Tryz.ntmps84
  go_wp2_with fail
  refine hc.mono ?_
  rintro e w' ⟨rfl, h⟩
  go_wp2_with fail
  (try simp only [Exit.inBlock, Exit.then]); refine bodyPost_ret (results_tmp2 rfl _ _ _) rfl ?_
  exact ⟨rfl, h⟩

set_option maxHeartbeats 4000000 in
set_option maxRecDepth 1000000 in
theorem by_partition_f (o : Ordr) (HO : CmpC (vOrd o) (cfO o)) (b cap n ncap : Nat) (na : Option Addr) (d : Array It) (x y z : Nat) (hd : d.size = n) (hsz : n < 4611686018427387904) (_h1 : x ≤ y) (h2 : y ≤ n) (h3 : x ≤ z) (h4 : z < y) (W : World) (hb : b < W.heap.size) (hH : Holds2 W b 0 d) (hN : RdN W na #[(x : Int), (y : Int), (z : Int)]) :
    Calls Tryz.prog 44 #[.int .i64 4, .agg #[.slice (some ⟨b, 0, none⟩) n cap, .int .i64 o.kind, .int .i64 o.shift, .int .u64 o.m0, .int .u64 o.m1, .int .u64 o.m2], .slice na 3 ncap] W fun e W' => ∃ nv, e = .returned nv ∧ St2 W b 0 (partition (ltC (cfO o)) d x y z).2.2 W' ∧ NumsAt W W' nv #[((partition (ltC (cfO o)) d x y z).1 : Int), flagN (partition (ltC (cfO o)) d x y z).2.1] := by
  obtain ⟨r, hr⟩ : ∃ r, r = partition (ltC (cfO o)) d x y z := ⟨_, rfl⟩
  rw [← hr]
  obtain ⟨k, s, m0, m1, m2⟩ := o
  obtain ⟨U, hU⟩ : ∃ U, U = (W.alloc (.cells #[.slice (some ⟨b, 0, none⟩) n cap, .int .i64 k, .int .i64 s, .int .u64 m0, .int .u64 m1, .int .u64 m2] 61)).alloc (.cells #[.int .i64 0] 3) := ⟨_, rfl⟩
  have BU : Below W.heap.size W U := by rw [hU]; exact Below.next (below_alloc _ _) (below_alloc _ _)
  have SV : St2 W b 0 d U.drew := ⟨fun i hi => Holds2_of_block (BU.block b hb) hH i hi, Nat.lt_of_lt_of_le hb BU.size, by rw [hU]; exact ((World.grownBy_alloc W _ _).trans (World.grownBy_alloc _ _ _)).trans ⟨rfl, rfl, rfl, Nat.le_refl _, fun _ _ _ => rfl⟩⟩
  have hc := door_partition_f 61 (vFace b cap n ⟨k, s, m0, m1, m2⟩) (ltC (cfO ⟨k, s, m0, m1, m2⟩)) 197 198 (vFace b cap n ⟨k, s, m0, m1, m2⟩) (vFace b cap n ⟨k, s, m0, m1, m2⟩) W b 0 n (face_ok ⟨k, s, m0, m1, m2⟩ HO W b cap n) d U.drew SV hd hsz x y z _h1 h2 h3 h4
  rw [← hr] at hc
  obtain ⟨nb, noff, rfl, hnb, hnc⟩ := hN (by simp)
  have n0 := (BU.cell (p := ⟨nb, noff + 0, none⟩) hnb).trans (hnc 0 (by simp))
  have n1 := (BU.cell (p := ⟨nb, noff + 1, none⟩) hnb).trans (hnc 1 (by simp))
  have n2 := (BU.cell (p := ⟨nb, noff + 2, none⟩) hnb).trans (hnc 2 (by simp))
  simp at n0 n1 n2
  have hbox : U.heap[W.heap.size]? = some (.cells #[.slice (some ⟨b, 0, none⟩) n cap, .int .i64 k, .int .i64 s, .int .u64 m0, .int .u64 m1, .int .u64 m2] 61 (0, 0)) := by rw [hU]; exact (heap_alloc_old _ _ (by simp)).trans (heap_alloc_new _ _)
  have q0 := cell_at (i := 0) hbox rfl
  have q1 := cell_at (i := 1) hbox rfl
  have q2 := cell_at (i := 2) hbox rfl
  have q3 := cell_at (i := 3) hbox rfl
  have q4 := cell_at (i := 4) hbox rfl
  have q5 := cell_at (i := 5) hbox rfl
  clear hbox
  have hU' : Aside _ := hU
  clear hr hnc SV BU hH hN hnb
  go_enter Tryz.func44, Tryz.ntmps44
  go_upto_region 12 with fail
  rw [← hU]
  clear hU
  refine wp_region_still_mid 11 (by kernel_rfl) (by kernel_rfl) ?_
  intro Q1 hQ1
  simp only [List.take_succ_cons, List.take_zero, List.drop_succ_cons, List.drop_zero] at hQ1 ⊢
  have HQ : Aside _ := hQ1
  clear hQ1
  repeat still_step
  refine wpStill_nil ?_
  change wpList _ _ _ _ _ U.drew
  clear n0 n1 n2 q0 q1 q2 q3 q4 q5 hU'
  generalize U.drew = V at hc ⊢
  go_wp2_with fail
  refine hc.mono ?_
  rintro e w' ⟨rfl, h⟩
  have SH : Aside _ := h
  clear h hc
  go_wp2_with fail
  refine HQ.out _ _ ?_
  clear HQ
  repeat still_step
  refine wpStill_nil ?_
  go_wp2_with (first | (go_at_call 66; refine (flag_calls _ _).mono ?_; rintro e w'' ⟨rfl, rfl⟩))
  go_ret
  exact ⟨_, rfl, SH.out.alloc _, nums_new W _ #[(r.1 : Int), flagN r.2.1] _ _ (by simp) SH.out.grown.size⟩

set_option maxHeartbeats 4000000 in
set_option maxRecDepth 1000000 in
theorem door_partition_o (w0 : World) (blk off cap n : Nat) (d : Array Int) (w : World) (S : St1 e64 w0 blk off d w) (hn : d.size = n) (hsz : n < 4611686018427387904) (x y z : Nat) (_h1 : x ≤ y) (h2 : y ≤ n) (h3 : x ≤ z) (h4 : z < y) :
    Calls Tryz.prog 101 #[.slice (some ⟨blk, off, none⟩) n cap, .int .i64 x, .int .i64 y, .int .i64 z] w fun e w' => e = .returned (.tuple #[.int .i64 (partition ltInt d x y z).1, .bool (partition ltInt d x y z).2.1]) ∧ St1 e64 w0 blk off (partition ltInt d x y z).2.2 w' := by
  have hc := partition_o w0 blk off cap n d w S hn hsz x y z h3 h4 h2
  obtain ⟨r, hr⟩ : ∃ r, r = partition ltInt d x y z := ⟨_, rfl⟩
  rw [← hr] at hc ⊢
  clear hr S
  go_enter Tryz.func101, Tryz.ntmps101
  go_wp2_with fail
  refine hc.mono ?_
  rintro e w' ⟨rfl, h⟩
  go_wp2_with fail
  (try simp only [Exit.inBlock, Exit.then]); refine bodyPost_ret (results_tmp2 rfl _ _ _) rfl ?_
  exact ⟨rfl, h⟩

set_option maxHeartbeats 4000000 in
set_option maxRecDepth 1000000 in
theorem by_partition_o (b cap n ncap : Nat) (na : Option Addr) (d : Array Int) (x y z : Nat) (hd : d.size = n) (hsz : n < 4611686018427387904) (_h1 : x ≤ y) (h2 : y ≤ n) (h3 : x ≤ z) (h4 : z < y) (W : World) (hb : b < W.heap.size) (hH : Holds e64 W b 0 d) (hN : RdN W na #[(x : Int), (y : Int), (z : Int)]) :
    Calls Tryz.prog 45 #[.int .i64 4, .slice (some ⟨b, 0, none⟩) n cap, .slice na 3 ncap] W fun e W' => ∃ nv, e = .returned nv ∧ St1 e64 W b 0 (partition ltInt d x y z).2.2 W' ∧ NumsAt W W' nv #[((partition ltInt d x y z).1 : Int), flagN (partition ltInt d x y z).2.1] := by
  obtain ⟨r, hr⟩ : ∃ r, r = partition ltInt d x y z := ⟨_, rfl⟩
  rw [← hr]
  obtain ⟨U, hU⟩ : ∃ U, U = W.alloc (.cells #[.int .i64 0] 3) := ⟨_, rfl⟩
  have BU : Below W.heap.size W U := by rw [hU]; exact below_alloc _ _
  have SV : St1 e64 W b 0 d U.drew := ⟨fun i hi => ⟨(World.cell?_of_block (BU.block b hb)).trans (hH i hi).1, (World.frozen?_of_block (BU.block b hb)).trans (hH i hi).2⟩, Nat.lt_of_lt_of_le hb BU.size, by rw [hU]; exact (World.grownBy_alloc W _ _).trans ⟨rfl, rfl, rfl, Nat.le_refl _, fun _ _ _ => rfl⟩⟩
  have hc := door_partition_o W b 0 cap n d U.drew SV hd hsz x y z _h1 h2 h3 h4
  rw [← hr] at hc
  obtain ⟨nb, noff, rfl, hnb, hnc⟩ := hN (by simp)
  have n0 := (BU.cell (p := ⟨nb, noff + 0, none⟩) hnb).trans (hnc 0 (by simp))
  have n1 := (BU.cell (p := ⟨nb, noff + 1, none⟩) hnb).trans (hnc 1 (by simp))
  have n2 := (BU.cell (p := ⟨nb, noff + 2, none⟩) hnb).trans (hnc 2 (by simp))
  simp at n0 n1 n2
  have hU' : Aside _ := hU
  clear hr hnc SV BU hH hN hnb
  go_enter Tryz.func45, Tryz.ntmps45
  go_upto_region 12 with fail
  rw [← hU]
  clear hU
  refine wp_region_still_mid 10 (by kernel_rfl) (by kernel_rfl) ?_
  intro Q1 hQ1
  simp only [List.take_succ_cons, List.take_zero, List.drop_succ_cons, List.drop_zero] at hQ1 ⊢
  have HQ : Aside _ := hQ1
  clear hQ1
  repeat still_step
  refine wpStill_nil ?_
  change wpList _ _ _ _ _ U.drew
  clear n0 n1 n2 hU'
  generalize U.drew = V at hc ⊢
  go_wp2_with fail
  refine hc.mono ?_
  rintro e w' ⟨rfl, h⟩
  have SH : Aside _ := h
  clear h hc
  go_wp2_with fail
  refine HQ.out _ _ ?_
  clear HQ
  repeat still_step
  refine wpStill_nil ?_
  go_wp2_with (first | (go_at_call 66; refine (flag_calls _ _).mono ?_; rintro e w'' ⟨rfl, rfl⟩))
  go_ret
  exact ⟨_, rfl, SH.out.alloc _, nums_new W _ #[(r.1 : Int), flagN r.2.1] _ _ (by simp) SH.out.grown.size⟩

end Go.Proofs.YtglgmkikegbchaaGreat

/- Inner of partition, whatever the text (printed by gen/law.py). -/
namespace Go.Proofs.YtglgmkikegbchaaGreat
open Go.RowKit Go.Sort

theorem inner_partition (t : Int) (a : Option Addr) (cap : Nat) (d : Array It) (o : Ordr) (na : Option Addr) (ncap : Nat) (X Y Z : Nat) (h1 : X ≤ Y) (h2 : Y ≤ d.size) (h3 : X ≤ Z) (h4 : Z < Y) (w : World) (h : Rd2 w a d) (hN : RdN w na #[(X : Int), (Y : Int), (Z : Int)]) (hsz : d.size ≤ 2000) (hs0 : 0 ≤ o.shift) (hs1 : o.shift < 64) (ht : textB t d o = true) :
    Calls Tryz.prog 28 #[.int .i64 t, .int .i64 4, .slice a d.size cap, vOrd o, .slice na 3 ncap] w (InnerTo w ((partition (ltC (cfO o)) d X Y Z).2.2) #[((partition (ltC (cfO o)) d X Y Z).1 : Int), flagN (partition (ltC (cfO o)) d X Y Z).2.1]) := by
  have HO := cmpC_of o hs0 hs1
  refine inner_any t 4 a cap d _ o na 3 ncap _ _ w h hN hsz (size_partition (ltC (cfO o)) d X Y Z h1 h2 h3 h4) ht many_4 (fun W b c hb hH hN => by_partition_c o HO b c d.size ncap na d X Y Z rfl (by omega) h1 h2 h3 h4 W hb hH hN) (fun W b c hb hH hN => by_partition_f o HO b c d.size ncap na d X Y Z rfl (by omega) h1 h2 h3 h4 W hb hH hN) (fun ek ks eb => ?_)
  subst eb
  rw [bare_size] at hsz h2
  have hl := ltC_bare o ek
  have en := nat_partition (fun k => ((k, 0) : It)) rfl (ltC (cfO o)) ltInt hl ks X Y Z
  unfold bare
  rw [en]
  exact ⟨(partition ltInt ks X Y Z).2.2, rfl, fun W b c hb hH hN => by_partition_o b c ks.size ncap na ks X Y Z rfl (by omega) h1 h2 h3 h4 W hb hH hN⟩
end Go.Proofs.YtglgmkikegbchaaGreat

/- byCompare, byLess, byKeys: partitionEqual (printed by gen/by.py). -/
namespace Go.Proofs.YtglgmkikegbchaaGreat
open Go.RowKit Go.Sort

set_option maxHeartbeats 4000000 in
set_option maxRecDepth 1000000 in
theorem door_partitionEqual_c (O : Value) (cf : It → It → Int) (hC : CmpC O cf) (w0 : World) (blk off cap n : Nat) (d : Array It) (w : World) (S : St2 w0 blk off d w) (hn : d.size = n) (hsz : n < 4611686018427387904) (x y z : Nat) (_h1 : x ≤ y) (h2 : y ≤ n) (h3 : x ≤ z) (h4 : z < y) :
    Calls Tryz.prog 67 #[.slice (some ⟨blk, off, none⟩) n cap, .int .i64 x, .int .i64 y, .int .i64 z, .func (.func 43) #[O] #[]] w fun e w' => e = .returned (.int .i64 (partitionEqual (ltC cf) d x y z).1) ∧ St2 w0 blk off (partitionEqual (ltC cf) d x y z).2 w' := by
  have hc := partitionEqual_c O cf hC w0 blk off cap n d w S hn hsz x y z h3 h4 h2
  obtain ⟨r, hr⟩ : ∃ r, r = partitionEqual (ltC cf) d x y z := ⟨_, rfl⟩
  rw [← hr] at hc ⊢
  clear hr S hC
  go_enter Tryz.func67, Tryz.ntmps67
  go_wp2_with fail
  refine hc.mono ?_
  rintro e w' ⟨rfl, h⟩
  go_wp2_with fail
  go_ret
  exact ⟨rfl, h⟩

set_option maxHeartbeats 4000000 in
set_option maxRecDepth 1000000 in
theorem by_partitionEqual_c (o : Ordr) (HO : CmpC (vOrd o) (cfO o)) (b cap n ncap : Nat) (na : Option Addr) (d : Array It) (x y z : Nat) (hd : d.size = n) (hsz : n < 4611686018427387904) (_h1 : x ≤ y) (h2 : y ≤ n) (h3 : x ≤ z) (h4 : z < y) (W : World) (hb : b < W.heap.size) (hH : Holds2 W b 0 d) (hN : RdN W na #[(x : Int), (y : Int), (z : Int)]) :
    Calls Tryz.prog 42 #[.int .i64 5, .slice (some ⟨b, 0, none⟩) n cap, .func (.func 43) #[vOrd o] #[], .slice na 3 ncap] W fun e W' => ∃ nv, e = .returned nv ∧ St2 W b 0 (partitionEqual (ltC (cfO o)) d x y z).2 W' ∧ NumsAt W W' nv #[((partitionEqual (ltC (cfO o)) d x y z).1 : Int)] := by
  obtain ⟨r, hr⟩ : ∃ r, r = partitionEqual (ltC (cfO o)) d x y z := ⟨_, rfl⟩
  rw [← hr]
  obtain ⟨U, hU⟩ : ∃ U, U = W.alloc (.cells #[.int .i64 0] 3) := ⟨_, rfl⟩
  have BU : Below W.heap.size W U := by rw [hU]; exact below_alloc _ _
  have SV : St2 W b 0 d U.drew := ⟨fun i hi => Holds2_of_block (BU.block b hb) hH i hi, Nat.lt_of_lt_of_le hb BU.size, by rw [hU]; exact (World.grownBy_alloc W _ _).trans ⟨rfl, rfl, rfl, Nat.le_refl _, fun _ _ _ => rfl⟩⟩
  have hc := door_partitionEqual_c (vOrd o) (cfO o) HO W b 0 cap n d U.drew SV hd hsz x y z _h1 h2 h3 h4
  rw [← hr] at hc
  obtain ⟨nb, noff, rfl, hnb, hnc⟩ := hN (by simp)
  have n0 := (BU.cell (p := ⟨nb, noff + 0, none⟩) hnb).trans (hnc 0 (by simp))
  have n1 := (BU.cell (p := ⟨nb, noff + 1, none⟩) hnb).trans (hnc 1 (by simp))
  have n2 := (BU.cell (p := ⟨nb, noff + 2, none⟩) hnb).trans (hnc 2 (by simp))
  simp at n0 n1 n2
  have hU' : Aside _ := hU
  clear hr hnc SV BU hH hN hnb
  go_enter Tryz.func42, Tryz.ntmps42
  go_upto_region 15 with fail
  rw [← hU]
  clear hU
  go_still_tail 11, (by kernel_rfl)
  change wpList _ _ _ _ _ U.drew
  clear n0 n1 n2 hU'
  generalize U.drew = V at hc ⊢
  go_wp2_with fail
  refine hc.mono ?_
  rintro e w' ⟨rfl, h⟩
  have SH : Aside _ := h
  clear h hc
  go_wp2_with fail
  go_ret
  exact ⟨_, rfl, SH.out.alloc _, nums_new W _ #[(r.1 : Int)] _ _ (by simp) SH.out.grown.size⟩

set_option maxHeartbeats 4000000 in
set_option maxRecDepth 1000000 in
theorem door_partitionEqual_f (T : TypeId) (rv : Value) (lt : It → It → Bool) (gl gs : Nat) (rl rs : Value) (w0 : World) (blk off n : Nat) (F : FaceOk T rv lt w0 blk off n gl gs rl rs) (d : Array It) (w : World) (S : St2 w0 blk off d w) (hn : d.size = n) (hsz : n < 4611686018427387904) (x y z : Nat) (_h1 : x ≤ y) (h2 : y ≤ n) (h3 : x ≤ z) (h4 : z < y) :
    Calls Tryz.prog 85 #[.iface T rv, .int .i64 x, .int .i64 y, .int .i64 z] w fun e w' => e = .returned (.int .i64 (partitionEqual lt d x y z).1) ∧ St2 w0 blk off (partitionEqual lt d x y z).2 w' := by
  have hc := partitionEqual_f T rv lt gl gs rl rs w0 blk off n F d w S hn hsz x y z h3 h4 h2
  obtain ⟨r, hr⟩ : ∃ r, r = partitionEqual lt d x y z := ⟨_, rfl⟩
  rw [← hr] at hc ⊢
  clear hr S F
  go_enter Tryz.func85, Tryz.ntmps85
  go_wp2_with fail
  refine hc.mono ?_
  rintro e w' ⟨rfl, h⟩
  go_wp2_with fail
  go_ret
  exact ⟨rfl, h⟩

set_option maxHeartbeats 4000000 in
set_option maxRecDepth 1000000 in
theorem by_partitionEqual_f (o : Ordr) (HO : CmpC (vOrd o) (cfO o)) (b cap n ncap : Nat) (na : Option Addr) (d : Array It) (x y z : Nat) (hd : d.size = n) (hsz : n < 4611686018427387904) (_h1 : x ≤ y) (h2 : y ≤ n) (h3 : x ≤ z) (h4 : z < y) (W : World) (hb : b < W.heap.size) (hH : Holds2 W b 0 d) (hN : RdN W na #[(x : Int), (y : Int), (z : Int)]) :
    Calls Tryz.prog 44 #[.int .i64 5, .agg #[.slice (some ⟨b, 0, none⟩) n cap, .int .i64 o.kind, .int .i64 o.shift, .int .u64 o.m0, .int .u64 o.m1, .int .u64 o.m2], .slice na 3 ncap] W fun e W' => ∃ nv, e = .returned nv ∧ St2 W b 0 (partitionEqual (ltC (cfO o)) d x y z).2 W' ∧ NumsAt W W' nv #[((partitionEqual (ltC (cfO o)) d x y z).1 : Int)] := by
  obtain ⟨r, hr⟩ : ∃ r, r = partitionEqual (ltC (cfO o)) d x y z := ⟨_, rfl⟩
  rw [← hr]
  obtain ⟨k, s, m0, m1, m2⟩ := o
  obtain ⟨U, hU⟩ : ∃ U, U = (W.alloc (.cells #[.slice (some ⟨b, 0, none⟩) n cap, .int .i64 k, .int .i64 s, .int .u64 m0, .int .u64 m1, .int .u64 m2] 61)).alloc (.cells #[.int .i64 0] 3) := ⟨_, rfl⟩
  have BU : Below W.heap.size W U := by rw [hU]; exact Below.next (below_alloc _ _) (below_alloc _ _)
  have SV : St2 W b 0 d U.drew := ⟨fun i hi => Holds2_of_block (BU.block b hb) hH i hi, Nat.lt_of_lt_of_le hb BU.size, by rw [hU]; exact ((World.grownBy_alloc W _ _).trans (World.grownBy_alloc _ _ _)).trans ⟨rfl, rfl, rfl, Nat.le_refl _, fun _ _ _ => rfl⟩⟩
  have hc := door_partitionEqual_f 61 (vFace b cap n ⟨k, s, m0, m1, m2⟩) (ltC (cfO ⟨k, s, m0, m1, m2⟩)) 197 198 (vFace b cap n ⟨k, s, m0, m1, m2⟩) (vFace b cap n ⟨k, s, m0, m1, m2⟩) W b 0 n (face_ok ⟨k, s, m0, m1, m2⟩ HO W b cap n) d U.drew SV hd hsz x y z _h1 h2 h3 h4
  rw [← hr] at hc
  obtain ⟨nb, noff, rfl, hnb, hnc⟩ := hN (by simp)
  have n0 := (BU.cell (p := ⟨nb, noff + 0, none⟩) hnb).trans (hnc 0 (by simp))
  have n1 := (BU.cell (p := ⟨nb, noff + 1, none⟩) hnb).trans (hnc 1 (by simp))
  have n2 := (BU.cell (p := ⟨nb, noff + 2, none⟩) hnb).trans (hnc 2 (by simp))
  simp at n0 n1 n2
  have hbox : U.heap[W.heap.size]? = some (.cells #[.slice (some ⟨b, 0, none⟩) n cap, .int .i64 k, .int .i64 s, .int .u64 m0, .int .u64 m1, .int .u64 m2] 61 (0, 0)) := by rw [hU]; exact (heap_alloc_old _ _ (by simp)).trans (heap_alloc_new _ _)
  have q0 := cell_at (i := 0) hbox rfl
  have q1 := cell_at (i := 1) hbox rfl
  have q2 := cell_at (i := 2) hbox rfl
  have q3 := cell_at (i := 3) hbox rfl
  have q4 := cell_at (i := 4) hbox rfl
  have q5 := cell_at (i := 5) hbox rfl
  clear hbox
  have hU' : Aside _ := hU
  clear hr hnc SV BU hH hN hnb
  go_enter Tryz.func44, Tryz.ntmps44
  go_upto_region 15 with fail
  rw [← hU]
  clear hU
  go_still_tail 11, (by kernel_rfl)
  change wpList _ _ _ _ _ U.drew
  clear n0 n1 n2 q0 q1 q2 q3 q4 q5 hU'
  generalize U.drew = V at hc ⊢
  go_wp2_with fail
  refine hc.mono ?_
  rintro e w' ⟨rfl, h⟩
  have SH : Aside _ := h
  clear h hc
  go_wp2_with fail
  go_ret
  exact ⟨_, rfl, SH.out.alloc _, nums_new W _ #[(r.1 : Int)] _ _ (by simp) SH.out.grown.size⟩

set_option maxHeartbeats 4000000 in
set_option maxRecDepth 1000000 in
theorem door_partitionEqual_o (w0 : World) (blk off cap n : Nat) (d : Array Int) (w : World) (S : St1 e64 w0 blk off d w) (hn : d.size = n) (hsz : n < 4611686018427387904) (x y z : Nat) (_h1 : x ≤ y) (h2 : y ≤ n) (h3 : x ≤ z) (h4 : z < y) :
    Calls Tryz.prog 102 #[.slice (some ⟨blk, off, none⟩) n cap, .int .i64 x, .int .i64 y, .int .i64 z] w fun e w' => e = .returned (.int .i64 (partitionEqual ltInt d x y z).1) ∧ St1 e64 w0 blk off (partitionEqual ltInt d x y z).2 w' := by
  have hc := partitionEqual_o w0 blk off cap n d w S hn hsz x y z h3 h4 h2
  obtain ⟨r, hr⟩ : ∃ r, r = partitionEqual ltInt d x y z := ⟨_, rfl⟩
  rw [← hr] at hc ⊢
  clear hr S
  go_enter Tryz.func102, Tryz.ntmps102
  go_wp2_with fail
  refine hc.mono ?_
  rintro e w' ⟨rfl, h⟩
  go_wp2_with fail
  go_ret
  exact ⟨rfl, h⟩

set_option maxHeartbeats 4000000 in
set_option maxRecDepth 1000000 in
theorem by_partitionEqual_o (b cap n ncap : Nat) (na : Option Addr) (d : Array Int) (x y z : Nat) (hd : d.size = n) (hsz : n < 4611686018427387904) (_h1 : x ≤ y) (h2 : y ≤ n) (h3 : x ≤ z) (h4 : z < y) (W : World) (hb : b < W.heap.size) (hH : Holds e64 W b 0 d) (hN : RdN W na #[(x : Int), (y : Int), (z : Int)]) :
    Calls Tryz.prog 45 #[.int .i64 5, .slice (some ⟨b, 0, none⟩) n cap, .slice na 3 ncap] W fun e W' => ∃ nv, e = .returned nv ∧ St1 e64 W b 0 (partitionEqual ltInt d x y z).2 W' ∧ NumsAt W W' nv #[((partitionEqual ltInt d x y z).1 : Int)] := by
  obtain ⟨r, hr⟩ : ∃ r, r = partitionEqual ltInt d x y z := ⟨_, rfl⟩
  rw [← hr]
  obtain ⟨U, hU⟩ : ∃ U, U = W.alloc (.cells #[.int .i64 0] 3) := ⟨_, rfl⟩
  have BU : Below W.heap.size W U := by rw [hU]; exact below_alloc _ _
  have SV : St1 e64 W b 0 d U.drew := ⟨fun i hi => ⟨(World.cell?_of_block (BU.block b hb)).trans (hH i hi).1, (World.frozen?_of_block (BU.block b hb)).trans (hH i hi).2⟩, Nat.lt_of_lt_of_le hb BU.size, by rw [hU]; exact (World.grownBy_alloc W _ _).trans ⟨rfl, rfl, rfl, Nat.le_refl _, fun _ _ _ => rfl⟩⟩
  have hc := door_partitionEqual_o W b 0 cap n d U.drew SV hd hsz x y z _h1 h2 h3 h4
  rw [← hr] at hc
  obtain ⟨nb, noff, rfl, hnb, hnc⟩ := hN (by simp)
  have n0 := (BU.cell (p := ⟨nb, noff + 0, none⟩) hnb).trans (hnc 0 (by simp))
  have n1 := (BU.cell (p := ⟨nb, noff + 1, none⟩) hnb).trans (hnc 1 (by simp))
  have n2 := (BU.cell (p := ⟨nb, noff + 2, none⟩) hnb).trans (hnc 2 (by simp))
  simp at n0 n1 n2
  have hU' : Aside _ := hU
  clear hr hnc SV BU hH hN hnb
  go_enter Tryz.func45, Tryz.ntmps45
  go_upto_region 15 with fail
  rw [← hU]
  clear hU
  go_still_tail 10, (by kernel_rfl)
  change wpList _ _ _ _ _ U.drew
  clear n0 n1 n2 hU'
  generalize U.drew = V at hc ⊢
  go_wp2_with fail
  refine hc.mono ?_
  rintro e w' ⟨rfl, h⟩
  have SH : Aside _ := h
  clear h hc
  go_wp2_with fail
  go_ret
  exact ⟨_, rfl, SH.out.alloc _, nums_new W _ #[(r.1 : Int)] _ _ (by simp) SH.out.grown.size⟩

end Go.Proofs.YtglgmkikegbchaaGreat

/- Inner of partitionEqual, whatever the text (printed by gen/law.py). -/
namespace Go.Proofs.YtglgmkikegbchaaGreat
open Go.RowKit Go.Sort

theorem inner_partitionEqual (t : Int) (a : Option Addr) (cap : Nat) (d : Array It) (o : Ordr) (na : Option Addr) (ncap : Nat) (X Y Z : Nat) (h1 : X ≤ Y) (h2 : Y ≤ d.size) (h3 : X ≤ Z) (h4 : Z < Y) (w : World) (h : Rd2 w a d) (hN : RdN w na #[(X : Int), (Y : Int), (Z : Int)]) (hsz : d.size ≤ 2000) (hs0 : 0 ≤ o.shift) (hs1 : o.shift < 64) (ht : textB t d o = true) :
    Calls Tryz.prog 28 #[.int .i64 t, .int .i64 5, .slice a d.size cap, vOrd o, .slice na 3 ncap] w (InnerTo w ((partitionEqual (ltC (cfO o)) d X Y Z).2) #[((partitionEqual (ltC (cfO o)) d X Y Z).1 : Int)]) := by
  have HO := cmpC_of o hs0 hs1
  refine inner_any t 5 a cap d _ o na 3 ncap _ _ w h hN hsz (size_partitionEqual (ltC (cfO o)) d X Y Z h1 h2 h3 h4) ht many_5 (fun W b c hb hH hN => by_partitionEqual_c o HO b c d.size ncap na d X Y Z rfl (by omega) h1 h2 h3 h4 W hb hH hN) (fun W b c hb hH hN => by_partitionEqual_f o HO b c d.size ncap na d X Y Z rfl (by omega) h1 h2 h3 h4 W hb hH hN) (fun ek ks eb => ?_)
  subst eb
  rw [bare_size] at hsz h2
  have hl := ltC_bare o ek
  have en := nat_partitionEqual (fun k => ((k, 0) : It)) rfl (ltC (cfO o)) ltInt hl ks X Y Z
  unfold bare
  rw [en]
  exact ⟨(partitionEqual ltInt ks X Y Z).2, rfl, fun W b c hb hH hN => by_partitionEqual_o b c ks.size ncap na ks X Y Z rfl (by omega) h1 h2 h3 h4 W hb hH hN⟩
end Go.Proofs.YtglgmkikegbchaaGreat
