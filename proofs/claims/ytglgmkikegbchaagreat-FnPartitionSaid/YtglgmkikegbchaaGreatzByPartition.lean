/- byCompare, byLess, byKeys: partition (printed by gen/by.py). -/
import Derived.Test.YtglgmkikegbchaaGreatWcPartition
import Derived.Test.YtglgmkikegbchaaGreatWfPartition
import Derived.Test.YtglgmkikegbchaaGreatWoPartition
import Derived.Test.YtglgmkikegbchaaGreatKb
import Derived.Test.YtglgmkikegbchaaGreatzPerm
import Derived.Test.YtglgmkikegbchaaGreatzNums
import Derived.Test.YtglgmkikegbchaaGreatzInnerC
import Derived.Test.YtglgmkikegbchaaGreatFace
import Derived.Test.YtglgmkikegbchaaGreatMid
import Derived.StillTailTactics
namespace Go.Proofs.YtglgmkikegbchaaGreat
open Go.RowKit Go.Sort

set_option maxHeartbeats 4000000 in
set_option maxRecDepth 1000000 in
theorem door_partition_c (O : Value) (cf : It → It → Int) (hC : CmpC O cf) (w0 : World) (blk off cap n : Nat) (d : Array It) (w : World) (S : St2 w0 blk off d w) (hn : d.size = n) (hsz : n < 4611686018427387904) (x y z : Nat) (_h1 : x ≤ y) (h2 : y ≤ n) (h3 : x ≤ z) (h4 : z < y) :
    Calls Tryz.prog 65 #[.slice (some ⟨blk, off, none⟩) n cap, .int .i64 x, .int .i64 y, .int .i64 z, .func (.func 43) #[O] #[]] w fun e w' => e = .returned (.tuple #[.int .i64 (partition (ltC cf) d x y z).1, .bool (partition (ltC cf) d x y z).2.1]) ∧ St2 w0 blk off (partition (ltC cf) d x y z).2.2 w' := by
  have hc := partition_c O cf hC w0 blk off cap n d w S hn hsz x y z h3 h4 h2
  obtain ⟨r, hr⟩ : ∃ r, r = partition (ltC cf) d x y z := ⟨_, rfl⟩
  rw [← hr] at hc ⊢
  clear hr S hC
  go_enter Tryz.func65, Tryz.ntmps65
  go_wp2_with fail
  refine hc.mono ?_
  rintro e w' ⟨rfl, h⟩
  go_wp2_with fail
  (try simp only [Exit.inBlock, Exit.then]); refine bodyPost_ret (results_tmp2 rfl _ _ _) rfl ?_
  exact ⟨rfl, h⟩

set_option maxHeartbeats 4000000 in
set_option maxRecDepth 1000000 in
theorem by_partition_c (o : Ordr) (HO : CmpC (vOrd o) (cfO o)) (b cap n ncap : Nat) (na : Option Addr) (d : Array It) (x y z : Nat) (hd : d.size = n) (hsz : n < 4611686018427387904) (_h1 : x ≤ y) (h2 : y ≤ n) (h3 : x ≤ z) (h4 : z < y) (W : World) (hb : b < W.heap.size) (hH : Holds2 W b 0 d) (hN : RdN W na #[(x : Int), (y : Int), (z : Int)]) :
    Calls Tryz.prog 42 #[.int .i64 4, .slice (some ⟨b, 0, none⟩) n cap, .func (.func 43) #[vOrd o] #[], .slice na 3 ncap] W fun e W' => ∃ nv, e = .returned nv ∧ St2 W b 0 (partition (ltC (cfO o)) d x y z).2.2 W' ∧ NumsAt W W' nv #[((partition (ltC (cfO o)) d x y z).1 : Int), flagN (partition (ltC (cfO o)) d x y z).2.1] := by
  obtain ⟨r, hr⟩ : ∃ r, r = partition (ltC (cfO o)) d x y z := ⟨_, rfl⟩
  rw [← hr]
  obtain ⟨U, hU⟩ : ∃ U, U = W.alloc (.cells #[.int .i64 0] 3) := ⟨_, rfl⟩
  have BU : Below W.heap.size W U := by rw [hU]; exact below_alloc _ _
  have SV : St2 W b 0 d U.drew := ⟨fun i hi => Holds2_of_block (BU.block b hb) hH i hi, Nat.lt_of_lt_of_le hb BU.size, by rw [hU]; exact (World.grownBy_alloc W _ _).trans ⟨rfl, rfl, rfl, Nat.le_refl _, fun _ _ _ => rfl⟩⟩
  have hc := door_partition_c (vOrd o) (cfO o) HO W b 0 cap n d U.drew SV hd hsz x y z _h1 h2 h3 h4
  rw [← hr] at hc
  obtain ⟨nb, noff, rfl, hnb, hnc⟩ := hN (by simp)
  have n0 := (BU.cell (p := ⟨nb, noff + 0, none⟩) hnb).trans (hnc 0 (by simp))
  have n1 := (BU.cell (p := ⟨nb, noff + 1, none⟩) hnb).trans (hnc 1 (by simp))
  have n2 := (BU.cell (p := ⟨nb, noff + 2, none⟩) hnb).trans (hnc 2 (by simp))
  simp at n0 n1 n2
  have hU' : Aside _ := hU
  clear hr hnc SV BU hH hN hnb
  go_enter Tryz.func42, Tryz.ntmps42
  go_upto_region 12 with fail
  rw [← hU]
  clear hU
  refine wp_region_still_mid 11 (by kernel_rfl) (by kernel_rfl) ?_
  intro Q1 hQ1
  simp only [List.take_succ_cons, List.take_zero, List.drop_succ_cons, List.drop_zero] at hQ1 ⊢
  have HQ : Aside _ := hQ1
  clear hQ1
  repeat still_step
  refine wpStill_nil ?_
  change wpList _ _ _ _ _ U.drew
  clear n0 n1 n2 hU'
  generalize U.drew = V at hc ⊢
  go_wp2_with fail
  refine hc.mono ?_
  rintro e w' ⟨rfl, h⟩
  have SH : Aside _ := h
  clear h hc
  go_wp2_with fail
  refine HQ.out _ _ ?_
  clear HQ
  repeat still_step
  refine wpStill_nil ?_
  go_wp2_with (first | (go_at_call 66; refine (flag_calls _ _).mono ?_; rintro e w'' ⟨rfl, rfl⟩))
  go_ret
  exact ⟨_, rfl, SH.out.alloc _, nums_new W _ #[(r.1 : Int), flagN r.2.1] _ _ (by simp) SH.out.grown.size⟩

set_option maxHeartbeats 4000000 in
set_option maxRecDepth 1000000 in
theorem door_partition_f (T : TypeId) (rv : Value) (lt : It → It → Bool) (gl gs : Nat) (rl rs : Value) (w0 : World) (blk off n : Nat) (F : FaceOk T rv lt w0 blk off n gl gs rl rs) (d : Array It) (w : World) (S : St2 w0 blk off d w) (hn : d.size = n) (hsz : n < 4611686018427387904) (x y z : Nat) (_h1 : x ≤ y) (h2 : y ≤ n) (h3 : x ≤ z) (h4 : z < y) :
    Calls Tryz.prog 84 #[.iface T rv, .int .i64 x, .int .i64 y, .int .i64 z] w fun e w' => e = .returned (.tuple #[.int .i64 (partition lt d x y z).1, .bool (partition lt d x y z).2.1]) ∧ St2 w0 blk off (partition lt d x y z).2.2 w' := by
  have hc := partition_f T rv lt gl gs rl rs w0 blk off n F d w S hn hsz x y z h3 h4 h2
  obtain ⟨r, hr⟩ : ∃ r, r = partition lt d x y z := ⟨_, rfl⟩
  rw [← hr] at hc ⊢
  clear hr S F
  go_enter Tryz.func84, Tryz.ntmps84
  go_wp2_with fail
  refine hc.mono ?_
  rintro e w' ⟨rfl, h⟩
  go_wp2_with fail
  (try simp only [Exit.inBlock, Exit.then]); refine bodyPost_ret (results_tmp2 rfl _ _ _) rfl ?_
  exact ⟨rfl, h⟩

set_option maxHeartbeats 4000000 in
set_option maxRecDepth 1000000 in
theorem by_partition_f (o : Ordr) (HO : CmpC (vOrd o) (cfO o)) (b cap n ncap : Nat) (na : Option Addr) (d : Array It) (x y z : Nat) (hd : d.size = n) (hsz : n < 4611686018427387904) (_h1 : x ≤ y) (h2 : y ≤ n) (h3 : x ≤ z) (h4 : z < y) (W : World) (hb : b < W.heap.size) (hH : Holds2 W b 0 d) (hN : RdN W na #[(x : Int), (y : Int), (z : Int)]) :
    Calls Tryz.prog 44 #[.int .i64 4, .agg #[.slice (some ⟨b, 0, none⟩) n cap, .int .i64 o.kind, .int .i64 o.shift, .int .u64 o.m0, .int .u64 o.m1, .int .u64 o.m2], .slice na 3 ncap] W fun e W' => ∃ nv, e = .returned nv ∧ St2 W b 0 (partition (ltC (cfO o)) d x y z).2.2 W' ∧ NumsAt W W' nv #[((partition (ltC (cfO o)) d x y z).1 : Int), flagN (partition (ltC (cfO o)) d x y z).2.1] := by
  obtain ⟨r, hr⟩ : ∃ r, r = partition (ltC (cfO o)) d x y z := ⟨_, rfl⟩
  rw [← hr]
  obtain ⟨k, s, m0, m1, m2⟩ := o
  obtain ⟨U, hU⟩ : ∃ U, U = (W.alloc (.cells #[.slice (some ⟨b, 0, none⟩) n cap, .int .i64 k, .int .i64 s, .int .u64 m0, .int .u64 m1, .int .u64 m2] 61)).alloc (.cells #[.int .i64 0] 3) := ⟨_, rfl⟩
  have BU : Below W.heap.size W U := by rw [hU]; exact Below.next (below_alloc _ _) (below_alloc _ _)
  have SV : St2 W b 0 d U.drew := ⟨fun i hi => Holds2_of_block (BU.block b hb) hH i hi, Nat.lt_of_lt_of_le hb BU.size, by rw [hU]; exact ((World.grownBy_alloc W _ _).trans (World.grownBy_alloc _ _ _)).trans ⟨rfl, rfl, rfl, Nat.le_refl _, fun _ _ _ => rfl⟩⟩
  have hc := door_partition_f 61 (vFace b cap n ⟨k, s, m0, m1, m2⟩) (ltC (cfO ⟨k, s, m0, m1, m2⟩)) 197 198 (vFace b cap n ⟨k, s, m0, m1, m2⟩) (vFace b cap n ⟨k, s, m0, m1, m2⟩) W b 0 n (face_ok ⟨k, s, m0, m1, m2⟩ HO W b cap n) d U.drew SV hd hsz x y z _h1 h2 h3 h4
  rw [← hr] at hc
  obtain ⟨nb, noff, rfl, hnb, hnc⟩ := hN (by simp)
  have n0 := (BU.cell (p := ⟨nb, noff + 0, none⟩) hnb).trans (hnc 0 (by simp))
  have n1 := (BU.cell (p := ⟨nb, noff + 1, none⟩) hnb).trans (hnc 1 (by simp))
  have n2 := (BU.cell (p := ⟨nb, noff + 2, none⟩) hnb).trans (hnc 2 (by simp))
  simp at n0 n1 n2
  have hbox : U.heap[W.heap.size]? = some (.cells #[.slice (some ⟨b, 0, none⟩) n cap, .int .i64 k, .int .i64 s, .int .u64 m0, .int .u64 m1, .int .u64 m2] 61 (0, 0)) := by rw [hU]; exact (heap_alloc_old _ _ (by simp)).trans (heap_alloc_new _ _)
  have q0 := cell_at (i := 0) hbox rfl
  have q1 := cell_at (i := 1) hbox rfl
  have q2 := cell_at (i := 2) hbox rfl
  have q3 := cell_at (i := 3) hbox rfl
  have q4 := cell_at (i := 4) hbox rfl
  have q5 := cell_at (i := 5) hbox rfl
  clear hbox
  have hU' : Aside _ := hU
  clear hr hnc SV BU hH hN hnb
  go_enter Tryz.func44, Tryz.ntmps44
  go_upto_region 12 with fail
  rw [← hU]
  clear hU
  refine wp_region_still_mid 11 (by kernel_rfl) (by kernel_rfl) ?_
  intro Q1 hQ1
  simp only [List.take_succ_cons, List.take_zero, List.drop_succ_cons, List.drop_zero] at hQ1 ⊢
  have HQ : Aside _ := hQ1
  clear hQ1
  repeat still_step
  refine wpStill_nil ?_
  change wpList _ _ _ _ _ U.drew
  clear n0 n1 n2 q0 q1 q2 q3 q4 q5 hU'
  generalize U.drew = V at hc ⊢
  go_wp2_with fail
  refine hc.mono ?_
  rintro e w' ⟨rfl, h⟩
  have SH : Aside _ := h
  clear h hc
  go_wp2_with fail
  refine HQ.out _ _ ?_
  clear HQ
  repeat still_step
  refine wpStill_nil ?_
  go_wp2_with (first | (go_at_call 66; refine (flag_calls _ _).mono ?_; rintro e w'' ⟨rfl, rfl⟩))
  go_ret
  exact ⟨_, rfl, SH.out.alloc _, nums_new W _ #[(r.1 : Int), flagN r.2.1] _ _ (by simp) SH.out.grown.size⟩

set_option maxHeartbeats 4000000 in
set_option maxRecDepth 1000000 in
theorem door_partition_o (w0 : World) (blk off cap n : Nat) (d : Array Int) (w : World) (S : St1 e64 w0 blk off d w) (hn : d.size = n) (hsz : n < 4611686018427387904) (x y z : Nat) (_h1 : x ≤ y) (h2 : y ≤ n) (h3 : x ≤ z) (h4 : z < y) :
    Calls Tryz.prog 101 #[.slice (some ⟨blk, off, none⟩) n cap, .int .i64 x, .int .i64 y, .int .i64 z] w fun e w' => e = .returned (.tuple #[.int .i64 (partition ltInt d x y z).1, .bool (partition ltInt d x y z).2.1]) ∧ St1 e64 w0 blk off (partition ltInt d x y z).2.2 w' := by
  have hc := partition_o w0 blk off cap n d w S hn hsz x y z h3 h4 h2
  obtain ⟨r, hr⟩ : ∃ r, r = partition ltInt d x y z := ⟨_, rfl⟩
  rw [← hr] at hc ⊢
  clear hr S
  go_enter Tryz.func101, Tryz.ntmps101
  go_wp2_with fail
  refine hc.mono ?_
  rintro e w' ⟨rfl, h⟩
  go_wp2_with fail
  (try simp only [Exit.inBlock, Exit.then]); refine bodyPost_ret (results_tmp2 rfl _ _ _) rfl ?_
  exact ⟨rfl, h⟩

set_option maxHeartbeats 4000000 in
set_option maxRecDepth 1000000 in
theorem by_partition_o (b cap n ncap : Nat) (na : Option Addr) (d : Array Int) (x y z : Nat) (hd : d.size = n) (hsz : n < 4611686018427387904) (_h1 : x ≤ y) (h2 : y ≤ n) (h3 : x ≤ z) (h4 : z < y) (W : World) (hb : b < W.heap.size) (hH : Holds e64 W b 0 d) (hN : RdN W na #[(x : Int), (y : Int), (z : Int)]) :
    Calls Tryz.prog 45 #[.int .i64 4, .slice (some ⟨b, 0, none⟩) n cap, .slice na 3 ncap] W fun e W' => ∃ nv, e = .returned nv ∧ St1 e64 W b 0 (partition ltInt d x y z).2.2 W' ∧ NumsAt W W' nv #[((partition ltInt d x y z).1 : Int), flagN (partition ltInt d x y z).2.1] := by
  obtain ⟨r, hr⟩ : ∃ r, r = partition ltInt d x y z := ⟨_, rfl⟩
  rw [← hr]
  obtain ⟨U, hU⟩ : ∃ U, U = W.alloc (.cells #[.int .i64 0] 3) := ⟨_, rfl⟩
  have BU : Below W.heap.size W U := by rw [hU]; exact below_alloc _ _
  have SV : St1 e64 W b 0 d U.drew := ⟨fun i hi => ⟨(World.cell?_of_block (BU.block b hb)).trans (hH i hi).1, (World.frozen?_of_block (BU.block b hb)).trans (hH i hi).2⟩, Nat.lt_of_lt_of_le hb BU.size, by rw [hU]; exact (World.grownBy_alloc W _ _).trans ⟨rfl, rfl, rfl, Nat.le_refl _, fun _ _ _ => rfl⟩⟩
  have hc := door_partition_o W b 0 cap n d U.drew SV hd hsz x y z _h1 h2 h3 h4
  rw [← hr] at hc
  obtain ⟨nb, noff, rfl, hnb, hnc⟩ := hN (by simp)
  have n0 := (BU.cell (p := ⟨nb, noff + 0, none⟩) hnb).trans (hnc 0 (by simp))
  have n1 := (BU.cell (p := ⟨nb, noff + 1, none⟩) hnb).trans (hnc 1 (by simp))
  have n2 := (BU.cell (p := ⟨nb, noff + 2, none⟩) hnb).trans (hnc 2 (by simp))
  simp at n0 n1 n2
  have hU' : Aside _ := hU
  clear hr hnc SV BU hH hN hnb
  go_enter Tryz.func45, Tryz.ntmps45
  go_upto_region 12 with fail
  rw [← hU]
  clear hU
  refine wp_region_still_mid 10 (by kernel_rfl) (by kernel_rfl) ?_
  intro Q1 hQ1
  simp only [List.take_succ_cons, List.take_zero, List.drop_succ_cons, List.drop_zero] at hQ1 ⊢
  have HQ : Aside _ := hQ1
  clear hQ1
  repeat still_step
  refine wpStill_nil ?_
  change wpList _ _ _ _ _ U.drew
  clear n0 n1 n2 hU'
  generalize U.drew = V at hc ⊢
  go_wp2_with fail
  refine hc.mono ?_
  rintro e w' ⟨rfl, h⟩
  have SH : Aside _ := h
  clear h hc
  go_wp2_with fail
  refine HQ.out _ _ ?_
  clear HQ
  repeat still_step
  refine wpStill_nil ?_
  go_wp2_with (first | (go_at_call 66; refine (flag_calls _ _).mono ?_; rintro e w'' ⟨rfl, rfl⟩))
  go_ret
  exact ⟨_, rfl, SH.out.alloc _, nums_new W _ #[(r.1 : Int), flagN r.2.1] _ _ (by simp) SH.out.grown.size⟩

end Go.Proofs.YtglgmkikegbchaaGreat
