/- byCompare, byLess, byKeys: siftDown (printed by gen/by.py). -/
import Derived.Test.YtglgmkikegbchaaGreatWcSiftDown
import Derived.Test.YtglgmkikegbchaaGreatWfSiftDown
import Derived.Test.YtglgmkikegbchaaGreatWoSiftDown
import Derived.Test.YtglgmkikegbchaaGreatGBS
import Derived.StillTailTactics
namespace Go.Proofs.YtglgmkikegbchaaGreat
open Go.RowKit Go.Sort

set_option maxHeartbeats 4000000 in
set_option maxRecDepth 1000000 in
theorem door_siftDown_c (O : Value) (cf : It → It → Int) (hC : CmpC O cf) (w0 : World) (blk off cap n : Nat) (d : Array It) (w : World) (S : St2 w0 blk off d w) (hn : d.size = n) (hsz : n < 4611686018427387904) (x y z : Nat) (h1 : x < y) (h2 : z + y ≤ n) :
    Calls Tryz.prog 62 #[.slice (some ⟨blk, off, none⟩) n cap, .int .i64 x, .int .i64 y, .int .i64 z, .func (.func 43) #[O] #[]] w fun e w' => e = .returned (.tuple #[]) ∧ St2 w0 blk off (siftDown (ltC cf) y z x d) w' := by
  have hc := siftDown_c O cf hC w0 blk off cap n d w S hn hsz x y z (by omega) h2
  clear S hC
  go_enter Tryz.func62, Tryz.ntmps62
  go_wp2_with fail
  refine hc.mono ?_
  rintro e w' ⟨rfl, h⟩
  go_wp2_with fail
  go_end0
  exact ⟨rfl, h⟩

set_option maxHeartbeats 4000000 in
set_option maxRecDepth 1000000 in
theorem by_siftDown_c (o : Ordr) (HO : CmpC (vOrd o) (cfO o)) (b cap n ncap : Nat) (na : Option Addr) (d : Array It) (x y z : Nat) (hd : d.size = n) (hsz : n < 4611686018427387904) (h1 : x < y) (h2 : z + y ≤ n) (W : World) (hb : b < W.heap.size) (hH : Holds2 W b 0 d) (hN : RdN W na #[(x : Int), (y : Int), (z : Int)]) :
    Calls Tryz.prog 42 #[.int .i64 1, .slice (some ⟨b, 0, none⟩) n cap, .func (.func 43) #[vOrd o] #[], .slice na 3 ncap] W fun e W' => ∃ nv, e = .returned nv ∧ St2 W b 0 (siftDown (ltC (cfO o)) y z x d) W' ∧ NumsAt W W' nv #[] := by
  obtain ⟨U, hU⟩ : ∃ U, U = W.alloc (.cells #[.int .i64 0] 3) := ⟨_, rfl⟩
  have BU : Below W.heap.size W U := by rw [hU]; exact below_alloc _ _
  have SV : St2 W b 0 d U.drew := ⟨fun i hi => Holds2_of_block (BU.block b hb) hH i hi, Nat.lt_of_lt_of_le hb BU.size, by rw [hU]; exact (World.grownBy_alloc W _ _).trans ⟨rfl, rfl, rfl, Nat.le_refl _, fun _ _ _ => rfl⟩⟩
  have hc := door_siftDown_c (vOrd o) (cfO o) HO W b 0 cap n d U.drew SV hd hsz x y z (by omega) h2
  obtain ⟨nb, noff, rfl, hnb, hnc⟩ := hN (by simp)
  have n0 := (BU.cell (p := ⟨nb, noff + 0, none⟩) hnb).trans (hnc 0 (by simp))
  have n1 := (BU.cell (p := ⟨nb, noff + 1, none⟩) hnb).trans (hnc 1 (by simp))
  have n2 := (BU.cell (p := ⟨nb, noff + 2, none⟩) hnb).trans (hnc 2 (by simp))
  simp at n0 n1 n2
  have hU' : Aside _ := hU
  clear hnc SV BU hH hN hnb
  go_enter Tryz.func42, Tryz.ntmps42
  go_upto_region 6 with fail
  rw [← hU]
  clear hU
  go_still_tail 11, (by kernel_rfl)
  change wpList _ _ _ _ _ U.drew
  clear n0 n1 n2 hU'
  generalize U.drew = V at hc ⊢
  go_wp2_with fail
  refine hc.mono ?_
  rintro e w' ⟨rfl, h⟩
  have SH : Aside _ := h
  clear h hc
  go_wp2_with fail
  go_ret
  exact ⟨_, rfl, SH.out, none, 0, rfl, fun h => absurd h (by simp), fun _ _ h => by cases h⟩

set_option maxHeartbeats 4000000 in
set_option maxRecDepth 1000000 in
theorem door_siftDown_f (T : TypeId) (rv : Value) (lt : It → It → Bool) (gl gs : Nat) (rl rs : Value) (w0 : World) (blk off n : Nat) (F : FaceOk T rv lt w0 blk off n gl gs rl rs) (d : Array It) (w : World) (S : St2 w0 blk off d w) (hn : d.size = n) (hsz : n < 4611686018427387904) (x y z : Nat) (h1 : x < y) (h2 : z + y ≤ n) :
    Calls Tryz.prog 81 #[.iface T rv, .int .i64 x, .int .i64 y, .int .i64 z] w fun e w' => e = .returned (.tuple #[]) ∧ St2 w0 blk off (siftDown lt y z x d) w' := by
  have hc := siftDown_f T rv lt gl gs rl rs w0 blk off n F d w S hn hsz x y z (by omega) h2
  clear S
  clear F
  go_enter Tryz.func81, Tryz.ntmps81
  go_wp2_with fail
  refine hc.mono ?_
  rintro e w' ⟨rfl, h⟩
  go_wp2_with fail
  go_end0
  exact ⟨rfl, h⟩

set_option maxHeartbeats 4000000 in
set_option maxRecDepth 1000000 in
theorem by_siftDown_f (o : Ordr) (HO : CmpC (vOrd o) (cfO o)) (b cap n ncap : Nat) (na : Option Addr) (d : Array It) (x y z : Nat) (hd : d.size = n) (hsz : n < 4611686018427387904) (h1 : x < y) (h2 : z + y ≤ n) (W : World) (hb : b < W.heap.size) (hH : Holds2 W b 0 d) (hN : RdN W na #[(x : Int), (y : Int), (z : Int)]) :
    Calls Tryz.prog 44 #[.int .i64 1, .agg #[.slice (some ⟨b, 0, none⟩) n cap, .int .i64 o.kind, .int .i64 o.shift, .int .u64 o.m0, .int .u64 o.m1, .int .u64 o.m2], .slice na 3 ncap] W fun e W' => ∃ nv, e = .returned nv ∧ St2 W b 0 (siftDown (ltC (cfO o)) y z x d) W' ∧ NumsAt W W' nv #[] := by
  obtain ⟨k, s, m0, m1, m2⟩ := o
  obtain ⟨U, hU⟩ : ∃ U, U = (W.alloc (.cells #[.slice (some ⟨b, 0, none⟩) n cap, .int .i64 k, .int .i64 s, .int .u64 m0, .int .u64 m1, .int .u64 m2] 61)).alloc (.cells #[.int .i64 0] 3) := ⟨_, rfl⟩
  have BU : Below W.heap.size W U := by rw [hU]; exact Below.next (below_alloc _ _) (below_alloc _ _)
  have SV : St2 W b 0 d U.drew := ⟨fun i hi => Holds2_of_block (BU.block b hb) hH i hi, Nat.lt_of_lt_of_le hb BU.size, by rw [hU]; exact ((World.grownBy_alloc W _ _).trans (World.grownBy_alloc _ _ _)).trans ⟨rfl, rfl, rfl, Nat.le_refl _, fun _ _ _ => rfl⟩⟩
  have hc := door_siftDown_f 61 (vFace b cap n ⟨k, s, m0, m1, m2⟩) (ltC (cfO ⟨k, s, m0, m1, m2⟩)) 197 198 (vFace b cap n ⟨k, s, m0, m1, m2⟩) (vFace b cap n ⟨k, s, m0, m1, m2⟩) W b 0 n (face_ok ⟨k, s, m0, m1, m2⟩ HO W b cap n) d U.drew SV hd hsz x y z (by omega) h2
  obtain ⟨nb, noff, rfl, hnb, hnc⟩ := hN (by simp)
  have n0 := (BU.cell (p := ⟨nb, noff + 0, none⟩) hnb).trans (hnc 0 (by simp))
  have n1 := (BU.cell (p := ⟨nb, noff + 1, none⟩) hnb).trans (hnc 1 (by simp))
  have n2 := (BU.cell (p := ⟨nb, noff + 2, none⟩) hnb).trans (hnc 2 (by simp))
  simp at n0 n1 n2
  have hbox : U.heap[W.heap.size]? = some (.cells #[.slice (some ⟨b, 0, none⟩) n cap, .int .i64 k, .int .i64 s, .int .u64 m0, .int .u64 m1, .int .u64 m2] 61 (0, 0)) := by rw [hU]; exact (heap_alloc_old _ _ (by simp)).trans (heap_alloc_new _ _)
  have q0 := cell_at (i := 0) hbox rfl
  have q1 := cell_at (i := 1) hbox rfl
  have q2 := cell_at (i := 2) hbox rfl
  have q3 := cell_at (i := 3) hbox rfl
  have q4 := cell_at (i := 4) hbox rfl
  have q5 := cell_at (i := 5) hbox rfl
  clear hbox
  have hU' : Aside _ := hU
  clear hnc SV BU hH hN hnb
  go_enter Tryz.func44, Tryz.ntmps44
  go_upto_region 6 with fail
  rw [← hU]
  clear hU
  go_still_tail 11, (by kernel_rfl)
  change wpList _ _ _ _ _ U.drew
  clear n0 n1 n2 q0 q1 q2 q3 q4 q5 hU'
  generalize U.drew = V at hc ⊢
  go_wp2_with fail
  refine hc.mono ?_
  rintro e w' ⟨rfl, h⟩
  have SH : Aside _ := h
  clear h hc
  go_wp2_with fail
  go_ret
  exact ⟨_, rfl, SH.out, none, 0, rfl, fun h => absurd h (by simp), fun _ _ h => by cases h⟩

set_option maxHeartbeats 4000000 in
set_option maxRecDepth 1000000 in
theorem door_siftDown_o (w0 : World) (blk off cap n : Nat) (d : Array Int) (w : World) (S : St1 e64 w0 blk off d w) (hn : d.size = n) (hsz : n < 4611686018427387904) (x y z : Nat) (h1 : x < y) (h2 : z + y ≤ n) :
    Calls Tryz.prog 98 #[.slice (some ⟨blk, off, none⟩) n cap, .int .i64 x, .int .i64 y, .int .i64 z] w fun e w' => e = .returned (.tuple #[]) ∧ St1 e64 w0 blk off (siftDown ltInt y z x d) w' := by
  have hc := siftDown_o w0 blk off cap n d w S hn hsz x y z (by omega) h2
  clear S
  go_enter Tryz.func98, Tryz.ntmps98
  go_wp2_with fail
  refine hc.mono ?_
  rintro e w' ⟨rfl, h⟩
  go_wp2_with fail
  go_end0
  exact ⟨rfl, h⟩

set_option maxHeartbeats 4000000 in
set_option maxRecDepth 1000000 in
theorem by_siftDown_o (b cap n ncap : Nat) (na : Option Addr) (d : Array Int) (x y z : Nat) (hd : d.size = n) (hsz : n < 4611686018427387904) (h1 : x < y) (h2 : z + y ≤ n) (W : World) (hb : b < W.heap.size) (hH : Holds e64 W b 0 d) (hN : RdN W na #[(x : Int), (y : Int), (z : Int)]) :
    Calls Tryz.prog 45 #[.int .i64 1, .slice (some ⟨b, 0, none⟩) n cap, .slice na 3 ncap] W fun e W' => ∃ nv, e = .returned nv ∧ St1 e64 W b 0 (siftDown ltInt y z x d) W' ∧ NumsAt W W' nv #[] := by
  obtain ⟨U, hU⟩ : ∃ U, U = W.alloc (.cells #[.int .i64 0] 3) := ⟨_, rfl⟩
  have BU : Below W.heap.size W U := by rw [hU]; exact below_alloc _ _
  have SV : St1 e64 W b 0 d U.drew := ⟨fun i hi => ⟨(World.cell?_of_block (BU.block b hb)).trans (hH i hi).1, (World.frozen?_of_block (BU.block b hb)).trans (hH i hi).2⟩, Nat.lt_of_lt_of_le hb BU.size, by rw [hU]; exact (World.grownBy_alloc W _ _).trans ⟨rfl, rfl, rfl, Nat.le_refl _, fun _ _ _ => rfl⟩⟩
  have hc := door_siftDown_o W b 0 cap n d U.drew SV hd hsz x y z (by omega) h2
  obtain ⟨nb, noff, rfl, hnb, hnc⟩ := hN (by simp)
  have n0 := (BU.cell (p := ⟨nb, noff + 0, none⟩) hnb).trans (hnc 0 (by simp))
  have n1 := (BU.cell (p := ⟨nb, noff + 1, none⟩) hnb).trans (hnc 1 (by simp))
  have n2 := (BU.cell (p := ⟨nb, noff + 2, none⟩) hnb).trans (hnc 2 (by simp))
  simp at n0 n1 n2
  have hU' : Aside _ := hU
  clear hnc SV BU hH hN hnb
  go_enter Tryz.func45, Tryz.ntmps45
  go_upto_region 6 with fail
  rw [← hU]
  clear hU
  go_still_tail 10, (by kernel_rfl)
  change wpList _ _ _ _ _ U.drew
  clear n0 n1 n2 hU'
  generalize U.drew = V at hc ⊢
  go_wp2_with fail
  refine hc.mono ?_
  rintro e w' ⟨rfl, h⟩
  have SH : Aside _ := h
  clear h hc
  go_wp2_with fail
  go_ret
  exact ⟨_, rfl, SH.out, none, 0, rfl, fun h => absurd h (by simp), fun _ _ h => by cases h⟩

end Go.Proofs.YtglgmkikegbchaaGreat
