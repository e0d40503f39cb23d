/- Texts of this claim, laid together: zByMedian, zInMedian, zByMedianAdjacent, zInMedianAdjacent, zByRotate, zInRotate, zByStable, zInStable, zBySymMerge, zInSymMerge. -/
import Derived.Test.YtglgmkikegbchaaGreatGV
import Derived.Test.YtglgmkikegbchaaGreatKb
import Derived.Test.YtglgmkikegbchaaGreatGBS
import Derived.Test.YtglgmkikegbchaaGreatGzNums
import Derived.Test.YtglgmkikegbchaaGreatMid
import Derived.Test.YtglgmkikegbchaaGreatWcRotate
import Derived.Test.YtglgmkikegbchaaGreatWfRotate
import Derived.Test.YtglgmkikegbchaaGreatWoRotate
import Derived.StillTailTactics
import Derived.Test.YtglgmkikegbchaaGreatGST
import Derived.Test.YtglgmkikegbchaaGreatWcSymMerge
import Derived.Test.YtglgmkikegbchaaGreatWfSymMerge
import Derived.Test.YtglgmkikegbchaaGreatGSY
/- byCompare, byLess, byKeys: median (printed by gen/by.py). -/
namespace Go.Proofs.YtglgmkikegbchaaGreat
open Go.RowKit Go.Sort

set_option maxHeartbeats 4000000 in
set_option maxRecDepth 1000000 in
theorem door_median_c (O : Value) (cf : It → It → Int) (hC : CmpC O cf) (w0 : World) (blk off cap n : Nat) (d : Array It) (w : World) (S : St2 w0 blk off d w) (hn : d.size = n) (hsz : n < 4611686018427387904) (x y z : Nat) (h1 : x < n) (h2 : y < n) (h3 : z < n) (sb : Nat) (Q : Box1 w0 w blk sb (.int .i64 (0 : Nat))) :
    Calls Tryz.prog 72 #[.slice (some ⟨blk, off, none⟩) n cap, .int .i64 x, .int .i64 y, .int .i64 z, .pointer (some ⟨sb, 0, none⟩), .func (.func 43) #[O] #[]] w fun e w' => e = .returned (.int .i64 (median (ltC cf) d x y z 0).1) ∧ St2 w0 blk off d w' ∧ Box1 w0 w' blk sb (.int .i64 ((median (ltC cf) d x y z 0).2 : Nat)) := by
  have hc := median_c O cf hC w0 blk off cap n d w S hn hsz x y z sb 0 h1 h2 h3 (by decide) Q
  obtain ⟨r, hr⟩ : ∃ r, r = median (ltC cf) d x y z 0 := ⟨_, rfl⟩
  rw [← hr] at hc ⊢
  clear hr S Q hC
  go_enter Tryz.func72, Tryz.ntmps72
  go_wp2_with fail
  refine hc.mono ?_
  rintro e w' ⟨rfl, h, hq⟩
  go_wp2_with fail
  go_ret
  exact ⟨rfl, h, hq⟩

set_option maxHeartbeats 4000000 in
set_option maxRecDepth 1000000 in
theorem by_median_c (o : Ordr) (HO : CmpC (vOrd o) (cfO o)) (b cap n ncap : Nat) (na : Option Addr) (d : Array It) (x y z : Nat) (hd : d.size = n) (hsz : n < 4611686018427387904) (h1 : x < n) (h2 : y < n) (h3 : z < n) (W : World) (hb : b < W.heap.size) (hH : Holds2 W b 0 d) (hN : RdN W na #[(x : Int), (y : Int), (z : Int)]) :
    Calls Tryz.prog 42 #[.int .i64 10, .slice (some ⟨b, 0, none⟩) n cap, .func (.func 43) #[vOrd o] #[], .slice na 3 ncap] W fun e W' => ∃ nv, e = .returned nv ∧ St2 W b 0 d W' ∧ NumsAt W W' nv #[((median (ltC (cfO o)) d x y z 0).1 : Int), ((median (ltC (cfO o)) d x y z 0).2 : Int)] := by
  obtain ⟨r, hr⟩ : ∃ r, r = median (ltC (cfO o)) d x y z 0 := ⟨_, rfl⟩
  rw [← hr]
  obtain ⟨U, hU⟩ : ∃ U, U = W.alloc (.cells #[.int .i64 0] 3) := ⟨_, rfl⟩
  have BU : Below W.heap.size W U := by rw [hU]; exact below_alloc _ _
  have SV : St2 W b 0 d U.drew := ⟨fun i hi => Holds2_of_block (BU.block b hb) hH i hi, Nat.lt_of_lt_of_le hb BU.size, by rw [hU]; exact (World.grownBy_alloc W _ _).trans ⟨rfl, rfl, rfl, Nat.le_refl _, fun _ _ _ => rfl⟩⟩
  have QV : Box1 W U.drew b W.heap.size (.int .i64 (0 : Nat)) := by rw [hU]; exact (Box1.new W W b _ _ (Nat.le_refl _) hb).drew
  have hc := door_median_c (vOrd o) (cfO o) HO W b 0 cap n d U.drew SV hd hsz x y z h1 h2 h3 W.heap.size QV
  rw [← hr] at hc
  obtain ⟨nb, noff, rfl, hnb, hnc⟩ := hN (by simp)
  have n0 := (BU.cell (p := ⟨nb, noff + 0, none⟩) hnb).trans (hnc 0 (by simp))
  have n1 := (BU.cell (p := ⟨nb, noff + 1, none⟩) hnb).trans (hnc 1 (by simp))
  have n2 := (BU.cell (p := ⟨nb, noff + 2, none⟩) hnb).trans (hnc 2 (by simp))
  simp at n0 n1 n2
  have hU' : Aside _ := hU
  clear hr hnc SV BU hH hN hnb QV
  go_enter Tryz.func42, Tryz.ntmps42
  go_upto_region 27 with fail
  rw [← hU]
  clear hU
  refine wp_region_still_mid 11 (by kernel_rfl) (by kernel_rfl) ?_
  intro Q1 hQ1
  simp only [List.take_succ_cons, List.take_zero, List.drop_succ_cons, List.drop_zero] at hQ1 ⊢
  have HQ : Aside _ := hQ1
  clear hQ1
  repeat still_step
  refine wpStill_nil ?_
  change wpList _ _ _ _ _ U.drew
  clear n0 n1 n2 hU'
  generalize U.drew = V at hc ⊢
  go_wp2_with fail
  refine hc.mono ?_
  rintro e w' ⟨rfl, h, hq⟩
  have SH : Aside _ := h
  clear h hc
  have QH : Aside _ := hq
  have qc := QH.out.cell
  clear hq
  go_wp2_with fail
  refine HQ.out _ _ ?_
  clear HQ
  repeat still_step
  refine wpStill_nil ?_
  go_wp2_with fail
  go_ret
  exact ⟨_, rfl, SH.out.alloc _, nums_new W w' #[(r.1 : Int), (r.2 : Int)] _ _ (by simp) SH.out.grown.size⟩

set_option maxHeartbeats 4000000 in
set_option maxRecDepth 1000000 in
theorem door_median_f (T : TypeId) (rv : Value) (lt : It → It → Bool) (gl gs : Nat) (rl rs : Value) (w0 : World) (blk off n : Nat) (F : FaceOk T rv lt w0 blk off n gl gs rl rs) (d : Array It) (w : World) (S : St2 w0 blk off d w) (hn : d.size = n) (hsz : n < 4611686018427387904) (x y z : Nat) (h1 : x < n) (h2 : y < n) (h3 : z < n) (sb : Nat) (Q : Box1 w0 w blk sb (.int .i64 (0 : Nat))) :
    Calls Tryz.prog 90 #[.iface T rv, .int .i64 x, .int .i64 y, .int .i64 z, .pointer (some ⟨sb, 0, none⟩)] w fun e w' => e = .returned (.int .i64 (median lt d x y z 0).1) ∧ St2 w0 blk off d w' ∧ Box1 w0 w' blk sb (.int .i64 ((median lt d x y z 0).2 : Nat)) := by
  have hc := median_f T rv lt gl gs rl rs w0 blk off n F d w S hn hsz x y z sb 0 h1 h2 h3 (by decide) Q
  obtain ⟨r, hr⟩ : ∃ r, r = median lt d x y z 0 := ⟨_, rfl⟩
  rw [← hr] at hc ⊢
  clear hr S Q F
  go_enter Tryz.func90, Tryz.ntmps90
  go_wp2_with fail
  refine hc.mono ?_
  rintro e w' ⟨rfl, h, hq⟩
  go_wp2_with fail
  go_ret
  exact ⟨rfl, h, hq⟩

set_option maxHeartbeats 4000000 in
set_option maxRecDepth 1000000 in
theorem by_median_f (o : Ordr) (HO : CmpC (vOrd o) (cfO o)) (b cap n ncap : Nat) (na : Option Addr) (d : Array It) (x y z : Nat) (hd : d.size = n) (hsz : n < 4611686018427387904) (h1 : x < n) (h2 : y < n) (h3 : z < n) (W : World) (hb : b < W.heap.size) (hH : Holds2 W b 0 d) (hN : RdN W na #[(x : Int), (y : Int), (z : Int)]) :
    Calls Tryz.prog 44 #[.int .i64 10, .agg #[.slice (some ⟨b, 0, none⟩) n cap, .int .i64 o.kind, .int .i64 o.shift, .int .u64 o.m0, .int .u64 o.m1, .int .u64 o.m2], .slice na 3 ncap] W fun e W' => ∃ nv, e = .returned nv ∧ St2 W b 0 d W' ∧ NumsAt W W' nv #[((median (ltC (cfO o)) d x y z 0).1 : Int), ((median (ltC (cfO o)) d x y z 0).2 : Int)] := by
  obtain ⟨r, hr⟩ : ∃ r, r = median (ltC (cfO o)) d x y z 0 := ⟨_, rfl⟩
  rw [← hr]
  obtain ⟨k, s, m0, m1, m2⟩ := o
  obtain ⟨U, hU⟩ : ∃ U, U = (W.alloc (.cells #[.slice (some ⟨b, 0, none⟩) n cap, .int .i64 k, .int .i64 s, .int .u64 m0, .int .u64 m1, .int .u64 m2] 61)).alloc (.cells #[.int .i64 0] 3) := ⟨_, rfl⟩
  have BU : Below W.heap.size W U := by rw [hU]; exact Below.next (below_alloc _ _) (below_alloc _ _)
  have SV : St2 W b 0 d U.drew := ⟨fun i hi => Holds2_of_block (BU.block b hb) hH i hi, Nat.lt_of_lt_of_le hb BU.size, by rw [hU]; exact ((World.grownBy_alloc W _ _).trans (World.grownBy_alloc _ _ _)).trans ⟨rfl, rfl, rfl, Nat.le_refl _, fun _ _ _ => rfl⟩⟩
  have e1 : (W.alloc (.cells #[.slice (some ⟨b, 0, none⟩) n cap, .int .i64 k, .int .i64 s, .int .u64 m0, .int .u64 m1, .int .u64 m2] 61)).heap.size = W.heap.size + 1 := by simp
  have QV : Box1 W U.drew b (W.heap.size + 1) (.int .i64 (0 : Nat)) := by rw [hU, ← e1]; exact (Box1.new W (W.alloc (.cells #[.slice (some ⟨b, 0, none⟩) n cap, .int .i64 k, .int .i64 s, .int .u64 m0, .int .u64 m1, .int .u64 m2] 61)) b _ _ (by simp) (by simp; omega)).drew
  have hc := door_median_f 61 (vFace b cap n ⟨k, s, m0, m1, m2⟩) (ltC (cfO ⟨k, s, m0, m1, m2⟩)) 197 198 (vFace b cap n ⟨k, s, m0, m1, m2⟩) (vFace b cap n ⟨k, s, m0, m1, m2⟩) W b 0 n (face_ok ⟨k, s, m0, m1, m2⟩ HO W b cap n) d U.drew SV hd hsz x y z h1 h2 h3 (W.heap.size + 1) QV
  rw [← hr] at hc
  obtain ⟨nb, noff, rfl, hnb, hnc⟩ := hN (by simp)
  have n0 := (BU.cell (p := ⟨nb, noff + 0, none⟩) hnb).trans (hnc 0 (by simp))
  have n1 := (BU.cell (p := ⟨nb, noff + 1, none⟩) hnb).trans (hnc 1 (by simp))
  have n2 := (BU.cell (p := ⟨nb, noff + 2, none⟩) hnb).trans (hnc 2 (by simp))
  simp at n0 n1 n2
  have hbox : U.heap[W.heap.size]? = some (.cells #[.slice (some ⟨b, 0, none⟩) n cap, .int .i64 k, .int .i64 s, .int .u64 m0, .int .u64 m1, .int .u64 m2] 61 (0, 0)) := by rw [hU]; exact (heap_alloc_old _ _ (by simp)).trans (heap_alloc_new _ _)
  have q0 := cell_at (i := 0) hbox rfl
  have q1 := cell_at (i := 1) hbox rfl
  have q2 := cell_at (i := 2) hbox rfl
  have q3 := cell_at (i := 3) hbox rfl
  have q4 := cell_at (i := 4) hbox rfl
  have q5 := cell_at (i := 5) hbox rfl
  clear hbox
  have hU' : Aside _ := hU
  clear hr hnc SV BU hH hN hnb QV e1
  go_enter Tryz.func44, Tryz.ntmps44
  go_upto_region 27 with fail
  rw [← hU]
  clear hU
  refine wp_region_still_mid 11 (by kernel_rfl) (by kernel_rfl) ?_
  intro Q1 hQ1
  simp only [List.take_succ_cons, List.take_zero, List.drop_succ_cons, List.drop_zero] at hQ1 ⊢
  have HQ : Aside _ := hQ1
  clear hQ1
  repeat still_step
  refine wpStill_nil ?_
  change wpList _ _ _ _ _ U.drew
  clear n0 n1 n2 q0 q1 q2 q3 q4 q5 hU'
  generalize U.drew = V at hc ⊢
  go_wp2_with fail
  refine hc.mono ?_
  rintro e w' ⟨rfl, h, hq⟩
  have SH : Aside _ := h
  clear h hc
  have QH : Aside _ := hq
  have qc := QH.out.cell
  clear hq
  go_wp2_with fail
  refine HQ.out _ _ ?_
  clear HQ
  repeat still_step
  refine wpStill_nil ?_
  go_wp2_with fail
  go_ret
  exact ⟨_, rfl, SH.out.alloc _, nums_new W w' #[(r.1 : Int), (r.2 : Int)] _ _ (by simp) SH.out.grown.size⟩

set_option maxHeartbeats 4000000 in
set_option maxRecDepth 1000000 in
theorem door_median_o (w0 : World) (blk off cap n : Nat) (d : Array Int) (w : World) (S : St1 e64 w0 blk off d w) (hn : d.size = n) (hsz : n < 4611686018427387904) (x y z : Nat) (h1 : x < n) (h2 : y < n) (h3 : z < n) (sb : Nat) (Q : Box1 w0 w blk sb (.int .i64 (0 : Nat))) :
    Calls Tryz.prog 107 #[.slice (some ⟨blk, off, none⟩) n cap, .int .i64 x, .int .i64 y, .int .i64 z, .pointer (some ⟨sb, 0, none⟩)] w fun e w' => e = .returned (.int .i64 (median ltInt d x y z 0).1) ∧ St1 e64 w0 blk off d w' ∧ Box1 w0 w' blk sb (.int .i64 ((median ltInt d x y z 0).2 : Nat)) := by
  have hc := median_o w0 blk off cap n d w S hn hsz x y z sb 0 h1 h2 h3 (by decide) Q
  obtain ⟨r, hr⟩ : ∃ r, r = median ltInt d x y z 0 := ⟨_, rfl⟩
  rw [← hr] at hc ⊢
  clear hr S Q
  go_enter Tryz.func107, Tryz.ntmps107
  go_wp2_with fail
  refine hc.mono ?_
  rintro e w' ⟨rfl, h, hq⟩
  go_wp2_with fail
  go_ret
  exact ⟨rfl, h, hq⟩

set_option maxHeartbeats 4000000 in
set_option maxRecDepth 1000000 in
theorem by_median_o (b cap n ncap : Nat) (na : Option Addr) (d : Array Int) (x y z : Nat) (hd : d.size = n) (hsz : n < 4611686018427387904) (h1 : x < n) (h2 : y < n) (h3 : z < n) (W : World) (hb : b < W.heap.size) (hH : Holds e64 W b 0 d) (hN : RdN W na #[(x : Int), (y : Int), (z : Int)]) :
    Calls Tryz.prog 45 #[.int .i64 10, .slice (some ⟨b, 0, none⟩) n cap, .slice na 3 ncap] W fun e W' => ∃ nv, e = .returned nv ∧ St1 e64 W b 0 d W' ∧ NumsAt W W' nv #[((median ltInt d x y z 0).1 : Int), ((median ltInt d x y z 0).2 : Int)] := by
  obtain ⟨r, hr⟩ : ∃ r, r = median ltInt d x y z 0 := ⟨_, rfl⟩
  rw [← hr]
  obtain ⟨U, hU⟩ : ∃ U, U = W.alloc (.cells #[.int .i64 0] 3) := ⟨_, rfl⟩
  have BU : Below W.heap.size W U := by rw [hU]; exact below_alloc _ _
  have SV : St1 e64 W b 0 d U.drew := ⟨fun i hi => ⟨(World.cell?_of_block (BU.block b hb)).trans (hH i hi).1, (World.frozen?_of_block (BU.block b hb)).trans (hH i hi).2⟩, Nat.lt_of_lt_of_le hb BU.size, by rw [hU]; exact (World.grownBy_alloc W _ _).trans ⟨rfl, rfl, rfl, Nat.le_refl _, fun _ _ _ => rfl⟩⟩
  have QV : Box1 W U.drew b W.heap.size (.int .i64 (0 : Nat)) := by rw [hU]; exact (Box1.new W W b _ _ (Nat.le_refl _) hb).drew
  have hc := door_median_o W b 0 cap n d U.drew SV hd hsz x y z h1 h2 h3 W.heap.size QV
  rw [← hr] at hc
  obtain ⟨nb, noff, rfl, hnb, hnc⟩ := hN (by simp)
  have n0 := (BU.cell (p := ⟨nb, noff + 0, none⟩) hnb).trans (hnc 0 (by simp))
  have n1 := (BU.cell (p := ⟨nb, noff + 1, none⟩) hnb).trans (hnc 1 (by simp))
  have n2 := (BU.cell (p := ⟨nb, noff + 2, none⟩) hnb).trans (hnc 2 (by simp))
  simp at n0 n1 n2
  have hU' : Aside _ := hU
  clear hr hnc SV BU hH hN hnb QV
  go_enter Tryz.func45, Tryz.ntmps45
  go_upto_region 27 with fail
  rw [← hU]
  clear hU
  refine wp_region_still_mid 10 (by kernel_rfl) (by kernel_rfl) ?_
  intro Q1 hQ1
  simp only [List.take_succ_cons, List.take_zero, List.drop_succ_cons, List.drop_zero] at hQ1 ⊢
  have HQ : Aside _ := hQ1
  clear hQ1
  repeat still_step
  refine wpStill_nil ?_
  change wpList _ _ _ _ _ U.drew
  clear n0 n1 n2 hU'
  generalize U.drew = V at hc ⊢
  go_wp2_with fail
  refine hc.mono ?_
  rintro e w' ⟨rfl, h, hq⟩
  have SH : Aside _ := h
  clear h hc
  have QH : Aside _ := hq
  have qc := QH.out.cell
  clear hq
  go_wp2_with fail
  refine HQ.out _ _ ?_
  clear HQ
  repeat still_step
  refine wpStill_nil ?_
  go_wp2_with fail
  go_ret
  exact ⟨_, rfl, SH.out.alloc _, nums_new W w' #[(r.1 : Int), (r.2 : Int)] _ _ (by simp) SH.out.grown.size⟩

end Go.Proofs.YtglgmkikegbchaaGreat

/- Inner of median, whatever the text (printed by gen/law.py). -/
namespace Go.Proofs.YtglgmkikegbchaaGreat
open Go.RowKit Go.Sort

theorem inner_median (t : Int) (a : Option Addr) (cap : Nat) (d : Array It) (o : Ordr) (na : Option Addr) (ncap : Nat) (X Y Z : Nat) (h1 : X < d.size) (h2 : Y < d.size) (h3 : Z < d.size) (w : World) (h : Rd2 w a d) (hN : RdN w na #[(X : Int), (Y : Int), (Z : Int)]) (hsz : d.size ≤ 2000) (hs0 : 0 ≤ o.shift) (hs1 : o.shift < 64) (ht : textB t d o = true) :
    Calls Tryz.prog 28 #[.int .i64 t, .int .i64 10, .slice a d.size cap, vOrd o, .slice na 3 ncap] w (InnerTo w (d) #[((median (ltC (cfO o)) d X Y Z 0).1 : Int), ((median (ltC (cfO o)) d X Y Z 0).2 : Int)]) := by
  have HO := cmpC_of o hs0 hs1
  refine inner_any t 10 a cap d _ o na 3 ncap _ _ w h hN hsz (rfl) ht many_10 (fun W b c hb hH hN => by_median_c o HO b c d.size ncap na d X Y Z rfl (by omega) h1 h2 h3 W hb hH hN) (fun W b c hb hH hN => by_median_f o HO b c d.size ncap na d X Y Z rfl (by omega) h1 h2 h3 W hb hH hN) (fun ek ks eb => ?_)
  subst eb
  rw [bare_size] at hsz h1 h2 h3
  have hl := ltC_bare o ek
  have en := nat_median (fun k => ((k, 0) : It)) rfl (ltC (cfO o)) ltInt hl ks X Y Z 0
  unfold bare
  rw [en]
  exact ⟨ks, rfl, fun W b c hb hH hN => by_median_o b c ks.size ncap na ks X Y Z rfl (by omega) h1 h2 h3 W hb hH hN⟩
end Go.Proofs.YtglgmkikegbchaaGreat

/- byCompare, byLess, byKeys: medianAdjacent (printed by gen/by.py). -/
namespace Go.Proofs.YtglgmkikegbchaaGreat
open Go.RowKit Go.Sort

set_option maxHeartbeats 4000000 in
set_option maxRecDepth 1000000 in
theorem door_medianAdjacent_c (O : Value) (cf : It → It → Int) (hC : CmpC O cf) (w0 : World) (blk off cap n : Nat) (d : Array It) (w : World) (S : St2 w0 blk off d w) (hn : d.size = n) (hsz : n < 4611686018427387904) (x : Nat) (h1 : 1 ≤ x) (h2 : x + 1 < n) (sb : Nat) (Q : Box1 w0 w blk sb (.int .i64 (0 : Nat))) :
    Calls Tryz.prog 73 #[.slice (some ⟨blk, off, none⟩) n cap, .int .i64 x, .pointer (some ⟨sb, 0, none⟩), .func (.func 43) #[O] #[]] w fun e w' => e = .returned (.int .i64 (medianAdjacent (ltC cf) d x 0).1) ∧ St2 w0 blk off d w' ∧ Box1 w0 w' blk sb (.int .i64 ((medianAdjacent (ltC cf) d x 0).2 : Nat)) := by
  have hc := medianAdjacent_c O cf hC w0 blk off cap n d w S hn hsz x sb 0 h1 h2 (by decide) Q
  obtain ⟨r, hr⟩ : ∃ r, r = medianAdjacent (ltC cf) d x 0 := ⟨_, rfl⟩
  rw [← hr] at hc ⊢
  clear hr S Q hC
  go_enter Tryz.func73, Tryz.ntmps73
  go_wp2_with fail
  refine hc.mono ?_
  rintro e w' ⟨rfl, h, hq⟩
  go_wp2_with fail
  go_ret
  exact ⟨rfl, h, hq⟩

set_option maxHeartbeats 4000000 in
set_option maxRecDepth 1000000 in
theorem by_medianAdjacent_c (o : Ordr) (HO : CmpC (vOrd o) (cfO o)) (b cap n ncap : Nat) (na : Option Addr) (d : Array It) (x : Nat) (hd : d.size = n) (hsz : n < 4611686018427387904) (h1 : 1 ≤ x) (h2 : x + 1 < n) (W : World) (hb : b < W.heap.size) (hH : Holds2 W b 0 d) (hN : RdN W na #[(x : Int)]) :
    Calls Tryz.prog 42 #[.int .i64 11, .slice (some ⟨b, 0, none⟩) n cap, .func (.func 43) #[vOrd o] #[], .slice na 1 ncap] W fun e W' => ∃ nv, e = .returned nv ∧ St2 W b 0 d W' ∧ NumsAt W W' nv #[((medianAdjacent (ltC (cfO o)) d x 0).1 : Int), ((medianAdjacent (ltC (cfO o)) d x 0).2 : Int)] := by
  obtain ⟨r, hr⟩ : ∃ r, r = medianAdjacent (ltC (cfO o)) d x 0 := ⟨_, rfl⟩
  rw [← hr]
  obtain ⟨U, hU⟩ : ∃ U, U = W.alloc (.cells #[.int .i64 0] 3) := ⟨_, rfl⟩
  have BU : Below W.heap.size W U := by rw [hU]; exact below_alloc _ _
  have SV : St2 W b 0 d U := ⟨fun i hi => Holds2_of_block (BU.block b hb) hH i hi, Nat.lt_of_lt_of_le hb BU.size, by rw [hU]; exact (World.grownBy_alloc W _ _)⟩
  have QV : Box1 W U b W.heap.size (.int .i64 (0 : Nat)) := by rw [hU]; exact (Box1.new W W b _ _ (Nat.le_refl _) hb)
  have hc := door_medianAdjacent_c (vOrd o) (cfO o) HO W b 0 cap n d U SV hd hsz x h1 h2 W.heap.size QV
  rw [← hr] at hc
  obtain ⟨nb, noff, rfl, hnb, hnc⟩ := hN (by simp)
  have n0 := (BU.cell (p := ⟨nb, noff + 0, none⟩) hnb).trans (hnc 0 (by simp))
  simp at n0
  have hU' : Aside _ := hU
  clear hr hnc SV BU hH hN hnb QV
  go_enter Tryz.func42, Tryz.ntmps42
  go_upto_region 30 with fail
  rw [← hU]
  clear hU
  go_wp2_with fail
  clear n0 hU'
  generalize U = V at hc ⊢
  refine hc.mono ?_
  rintro e w' ⟨rfl, h, hq⟩
  have SH : Aside _ := h
  clear h hc
  have QH : Aside _ := hq
  have qc := QH.out.cell
  clear hq
  go_wp2_with fail
  go_ret
  exact ⟨_, rfl, SH.out.alloc _, nums_new W w' #[(r.1 : Int), (r.2 : Int)] _ _ (by simp) SH.out.grown.size⟩

set_option maxHeartbeats 4000000 in
set_option maxRecDepth 1000000 in
theorem door_medianAdjacent_f (T : TypeId) (rv : Value) (lt : It → It → Bool) (gl gs : Nat) (rl rs : Value) (w0 : World) (blk off n : Nat) (F : FaceOk T rv lt w0 blk off n gl gs rl rs) (d : Array It) (w : World) (S : St2 w0 blk off d w) (hn : d.size = n) (hsz : n < 4611686018427387904) (x : Nat) (h1 : 1 ≤ x) (h2 : x + 1 < n) (sb : Nat) (Q : Box1 w0 w blk sb (.int .i64 (0 : Nat))) :
    Calls Tryz.prog 91 #[.iface T rv, .int .i64 x, .pointer (some ⟨sb, 0, none⟩)] w fun e w' => e = .returned (.int .i64 (medianAdjacent lt d x 0).1) ∧ St2 w0 blk off d w' ∧ Box1 w0 w' blk sb (.int .i64 ((medianAdjacent lt d x 0).2 : Nat)) := by
  have hc := medianAdjacent_f T rv lt gl gs rl rs w0 blk off n F d w S hn hsz x sb 0 h1 h2 (by decide) Q
  obtain ⟨r, hr⟩ : ∃ r, r = medianAdjacent lt d x 0 := ⟨_, rfl⟩
  rw [← hr] at hc ⊢
  clear hr S Q F
  go_enter Tryz.func91, Tryz.ntmps91
  go_wp2_with fail
  refine hc.mono ?_
  rintro e w' ⟨rfl, h, hq⟩
  go_wp2_with fail
  go_ret
  exact ⟨rfl, h, hq⟩

set_option maxHeartbeats 4000000 in
set_option maxRecDepth 1000000 in
theorem by_medianAdjacent_f (o : Ordr) (HO : CmpC (vOrd o) (cfO o)) (b cap n ncap : Nat) (na : Option Addr) (d : Array It) (x : Nat) (hd : d.size = n) (hsz : n < 4611686018427387904) (h1 : 1 ≤ x) (h2 : x + 1 < n) (W : World) (hb : b < W.heap.size) (hH : Holds2 W b 0 d) (hN : RdN W na #[(x : Int)]) :
    Calls Tryz.prog 44 #[.int .i64 11, .agg #[.slice (some ⟨b, 0, none⟩) n cap, .int .i64 o.kind, .int .i64 o.shift, .int .u64 o.m0, .int .u64 o.m1, .int .u64 o.m2], .slice na 1 ncap] W fun e W' => ∃ nv, e = .returned nv ∧ St2 W b 0 d W' ∧ NumsAt W W' nv #[((medianAdjacent (ltC (cfO o)) d x 0).1 : Int), ((medianAdjacent (ltC (cfO o)) d x 0).2 : Int)] := by
  obtain ⟨r, hr⟩ : ∃ r, r = medianAdjacent (ltC (cfO o)) d x 0 := ⟨_, rfl⟩
  rw [← hr]
  obtain ⟨k, s, m0, m1, m2⟩ := o
  obtain ⟨U, hU⟩ : ∃ U, U = (W.alloc (.cells #[.slice (some ⟨b, 0, none⟩) n cap, .int .i64 k, .int .i64 s, .int .u64 m0, .int .u64 m1, .int .u64 m2] 61)).alloc (.cells #[.int .i64 0] 3) := ⟨_, rfl⟩
  have BU : Below W.heap.size W U := by rw [hU]; exact Below.next (below_alloc _ _) (below_alloc _ _)
  have SV : St2 W b 0 d U.drew := ⟨fun i hi => Holds2_of_block (BU.block b hb) hH i hi, Nat.lt_of_lt_of_le hb BU.size, by rw [hU]; exact ((World.grownBy_alloc W _ _).trans (World.grownBy_alloc _ _ _)).trans ⟨rfl, rfl, rfl, Nat.le_refl _, fun _ _ _ => rfl⟩⟩
  have e1 : (W.alloc (.cells #[.slice (some ⟨b, 0, none⟩) n cap, .int .i64 k, .int .i64 s, .int .u64 m0, .int .u64 m1, .int .u64 m2] 61)).heap.size = W.heap.size + 1 := by simp
  have QV : Box1 W U.drew b (W.heap.size + 1) (.int .i64 (0 : Nat)) := by rw [hU, ← e1]; exact (Box1.new W (W.alloc (.cells #[.slice (some ⟨b, 0, none⟩) n cap, .int .i64 k, .int .i64 s, .int .u64 m0, .int .u64 m1, .int .u64 m2] 61)) b _ _ (by simp) (by simp; omega)).drew
  have hc := door_medianAdjacent_f 61 (vFace b cap n ⟨k, s, m0, m1, m2⟩) (ltC (cfO ⟨k, s, m0, m1, m2⟩)) 197 198 (vFace b cap n ⟨k, s, m0, m1, m2⟩) (vFace b cap n ⟨k, s, m0, m1, m2⟩) W b 0 n (face_ok ⟨k, s, m0, m1, m2⟩ HO W b cap n) d U.drew SV hd hsz x h1 h2 (W.heap.size + 1) QV
  rw [← hr] at hc
  obtain ⟨nb, noff, rfl, hnb, hnc⟩ := hN (by simp)
  have n0 := (BU.cell (p := ⟨nb, noff + 0, none⟩) hnb).trans (hnc 0 (by simp))
  simp at n0
  have hbox : U.heap[W.heap.size]? = some (.cells #[.slice (some ⟨b, 0, none⟩) n cap, .int .i64 k, .int .i64 s, .int .u64 m0, .int .u64 m1, .int .u64 m2] 61 (0, 0)) := by rw [hU]; exact (heap_alloc_old _ _ (by simp)).trans (heap_alloc_new _ _)
  have q0 := cell_at (i := 0) hbox rfl
  have q1 := cell_at (i := 1) hbox rfl
  have q2 := cell_at (i := 2) hbox rfl
  have q3 := cell_at (i := 3) hbox rfl
  have q4 := cell_at (i := 4) hbox rfl
  have q5 := cell_at (i := 5) hbox rfl
  clear hbox
  have hU' : Aside _ := hU
  clear hr hnc SV BU hH hN hnb QV e1
  go_enter Tryz.func44, Tryz.ntmps44
  go_upto_region 30 with fail
  rw [← hU]
  clear hU
  refine wp_region_still_mid 5 (by kernel_rfl) (by kernel_rfl) ?_
  intro Q1 hQ1
  simp only [List.take_succ_cons, List.take_zero, List.drop_succ_cons, List.drop_zero] at hQ1 ⊢
  have HQ : Aside _ := hQ1
  clear hQ1
  repeat still_step
  refine wpStill_nil ?_
  change wpList _ _ _ _ _ U.drew
  clear n0 q0 q1 q2 q3 q4 q5 hU'
  generalize U.drew = V at hc ⊢
  go_wp2_with fail
  refine hc.mono ?_
  rintro e w' ⟨rfl, h, hq⟩
  have SH : Aside _ := h
  clear h hc
  have QH : Aside _ := hq
  have qc := QH.out.cell
  clear hq
  go_wp2_with fail
  refine HQ.out _ _ ?_
  clear HQ
  repeat still_step
  refine wpStill_nil ?_
  go_wp2_with fail
  go_ret
  exact ⟨_, rfl, SH.out.alloc _, nums_new W w' #[(r.1 : Int), (r.2 : Int)] _ _ (by simp) SH.out.grown.size⟩

set_option maxHeartbeats 4000000 in
set_option maxRecDepth 1000000 in
theorem door_medianAdjacent_o (w0 : World) (blk off cap n : Nat) (d : Array Int) (w : World) (S : St1 e64 w0 blk off d w) (hn : d.size = n) (hsz : n < 4611686018427387904) (x : Nat) (h1 : 1 ≤ x) (h2 : x + 1 < n) (sb : Nat) (Q : Box1 w0 w blk sb (.int .i64 (0 : Nat))) :
    Calls Tryz.prog 108 #[.slice (some ⟨blk, off, none⟩) n cap, .int .i64 x, .pointer (some ⟨sb, 0, none⟩)] w fun e w' => e = .returned (.int .i64 (medianAdjacent ltInt d x 0).1) ∧ St1 e64 w0 blk off d w' ∧ Box1 w0 w' blk sb (.int .i64 ((medianAdjacent ltInt d x 0).2 : Nat)) := by
  have hc := medianAdjacent_o w0 blk off cap n d w S hn hsz x sb 0 h1 h2 (by decide) Q
  obtain ⟨r, hr⟩ : ∃ r, r = medianAdjacent ltInt d x 0 := ⟨_, rfl⟩
  rw [← hr] at hc ⊢
  clear hr S Q
  go_enter Tryz.func108, Tryz.ntmps108
  go_wp2_with fail
  refine hc.mono ?_
  rintro e w' ⟨rfl, h, hq⟩
  go_wp2_with fail
  go_ret
  exact ⟨rfl, h, hq⟩

set_option maxHeartbeats 4000000 in
set_option maxRecDepth 1000000 in
theorem by_medianAdjacent_o (b cap n ncap : Nat) (na : Option Addr) (d : Array Int) (x : Nat) (hd : d.size = n) (hsz : n < 4611686018427387904) (h1 : 1 ≤ x) (h2 : x + 1 < n) (W : World) (hb : b < W.heap.size) (hH : Holds e64 W b 0 d) (hN : RdN W na #[(x : Int)]) :
    Calls Tryz.prog 45 #[.int .i64 11, .slice (some ⟨b, 0, none⟩) n cap, .slice na 1 ncap] W fun e W' => ∃ nv, e = .returned nv ∧ St1 e64 W b 0 d W' ∧ NumsAt W W' nv #[((medianAdjacent ltInt d x 0).1 : Int), ((medianAdjacent ltInt d x 0).2 : Int)] := by
  obtain ⟨r, hr⟩ : ∃ r, r = medianAdjacent ltInt d x 0 := ⟨_, rfl⟩
  rw [← hr]
  obtain ⟨U, hU⟩ : ∃ U, U = W.alloc (.cells #[.int .i64 0] 3) := ⟨_, rfl⟩
  have BU : Below W.heap.size W U := by rw [hU]; exact below_alloc _ _
  have SV : St1 e64 W b 0 d U := ⟨fun i hi => ⟨(World.cell?_of_block (BU.block b hb)).trans (hH i hi).1, (World.frozen?_of_block (BU.block b hb)).trans (hH i hi).2⟩, Nat.lt_of_lt_of_le hb BU.size, by rw [hU]; exact (World.grownBy_alloc W _ _)⟩
  have QV : Box1 W U b W.heap.size (.int .i64 (0 : Nat)) := by rw [hU]; exact (Box1.new W W b _ _ (Nat.le_refl _) hb)
  have hc := door_medianAdjacent_o W b 0 cap n d U SV hd hsz x h1 h2 W.heap.size QV
  rw [← hr] at hc
  obtain ⟨nb, noff, rfl, hnb, hnc⟩ := hN (by simp)
  have n0 := (BU.cell (p := ⟨nb, noff + 0, none⟩) hnb).trans (hnc 0 (by simp))
  simp at n0
  have hU' : Aside _ := hU
  clear hr hnc SV BU hH hN hnb QV
  go_enter Tryz.func45, Tryz.ntmps45
  go_upto_region 30 with fail
  rw [← hU]
  clear hU
  go_wp2_with fail
  clear n0 hU'
  generalize U = V at hc ⊢
  refine hc.mono ?_
  rintro e w' ⟨rfl, h, hq⟩
  have SH : Aside _ := h
  clear h hc
  have QH : Aside _ := hq
  have qc := QH.out.cell
  clear hq
  go_wp2_with fail
  go_ret
  exact ⟨_, rfl, SH.out.alloc _, nums_new W w' #[(r.1 : Int), (r.2 : Int)] _ _ (by simp) SH.out.grown.size⟩

end Go.Proofs.YtglgmkikegbchaaGreat

/- Inner of medianAdjacent, whatever the text (printed by gen/law.py). -/
namespace Go.Proofs.YtglgmkikegbchaaGreat
open Go.RowKit Go.Sort

theorem inner_medianAdjacent (t : Int) (a : Option Addr) (cap : Nat) (d : Array It) (o : Ordr) (na : Option Addr) (ncap : Nat) (X : Nat) (h1 : 1 ≤ X) (h2 : X + 1 < d.size) (w : World) (h : Rd2 w a d) (hN : RdN w na #[(X : Int)]) (hsz : d.size ≤ 2000) (hs0 : 0 ≤ o.shift) (hs1 : o.shift < 64) (ht : textB t d o = true) :
    Calls Tryz.prog 28 #[.int .i64 t, .int .i64 11, .slice a d.size cap, vOrd o, .slice na 1 ncap] w (InnerTo w (d) #[((medianAdjacent (ltC (cfO o)) d X 0).1 : Int), ((medianAdjacent (ltC (cfO o)) d X 0).2 : Int)]) := by
  have HO := cmpC_of o hs0 hs1
  refine inner_any t 11 a cap d _ o na 1 ncap _ _ w h hN hsz (rfl) ht many_11 (fun W b c hb hH hN => by_medianAdjacent_c o HO b c d.size ncap na d X rfl (by omega) h1 h2 W hb hH hN) (fun W b c hb hH hN => by_medianAdjacent_f o HO b c d.size ncap na d X rfl (by omega) h1 h2 W hb hH hN) (fun ek ks eb => ?_)
  subst eb
  rw [bare_size] at hsz h2
  have hl := ltC_bare o ek
  have en := nat_medianAdjacent (fun k => ((k, 0) : It)) rfl (ltC (cfO o)) ltInt hl ks X 0
  unfold bare
  rw [en]
  exact ⟨ks, rfl, fun W b c hb hH hN => by_medianAdjacent_o b c ks.size ncap na ks X rfl (by omega) h1 h2 W hb hH hN⟩
end Go.Proofs.YtglgmkikegbchaaGreat

/- byCompare, byLess, byKeys: rotate (printed by gen/by.py). -/
namespace Go.Proofs.YtglgmkikegbchaaGreat
open Go.RowKit Go.Sort

set_option maxHeartbeats 4000000 in
set_option maxRecDepth 1000000 in
theorem door_rotate_c (O : Value) (cf : It → It → Int) (hC : CmpC O cf) (w0 : World) (blk off cap n : Nat) (d : Array It) (w : World) (S : St2 w0 blk off d w) (hn : d.size = n) (hsz : n < 4611686018427387904) (x y z : Nat) (h1 : x < y) (h2 : y < z) (h3 : z ≤ n) :
    Calls Tryz.prog 78 #[.slice (some ⟨blk, off, none⟩) n cap, .int .i64 x, .int .i64 y, .int .i64 z, .func (.func 43) #[O] #[]] w fun e w' => e = .returned (.tuple #[]) ∧ St2 w0 blk off (rotate d x y z) w' := by
  have hc := rotate_c O cf hC w0 blk off cap n d w S hn hsz x y z h1 h2 h3
  clear S hC
  go_enter Tryz.func78, Tryz.ntmps78
  go_wp2_with fail
  refine hc.mono ?_
  rintro e w' ⟨rfl, h⟩
  go_wp2_with fail
  go_end0
  exact ⟨rfl, h⟩

set_option maxHeartbeats 4000000 in
set_option maxRecDepth 1000000 in
theorem by_rotate_c (o : Ordr) (HO : CmpC (vOrd o) (cfO o)) (b cap n ncap : Nat) (na : Option Addr) (d : Array It) (x y z : Nat) (hd : d.size = n) (hsz : n < 4611686018427387904) (h1 : x < y) (h2 : y < z) (h3 : z ≤ n) (W : World) (hb : b < W.heap.size) (hH : Holds2 W b 0 d) (hN : RdN W na #[(x : Int), (y : Int), (z : Int)]) :
    Calls Tryz.prog 42 #[.int .i64 16, .slice (some ⟨b, 0, none⟩) n cap, .func (.func 43) #[vOrd o] #[], .slice na 3 ncap] W fun e W' => ∃ nv, e = .returned nv ∧ St2 W b 0 (rotate d x y z) W' ∧ NumsAt W W' nv #[] := by
  obtain ⟨U, hU⟩ : ∃ U, U = W.alloc (.cells #[.int .i64 0] 3) := ⟨_, rfl⟩
  have BU : Below W.heap.size W U := by rw [hU]; exact below_alloc _ _
  have SV : St2 W b 0 d U.drew := ⟨fun i hi => Holds2_of_block (BU.block b hb) hH i hi, Nat.lt_of_lt_of_le hb BU.size, by rw [hU]; exact (World.grownBy_alloc W _ _).trans ⟨rfl, rfl, rfl, Nat.le_refl _, fun _ _ _ => rfl⟩⟩
  have hc := door_rotate_c (vOrd o) (cfO o) HO W b 0 cap n d U.drew SV hd hsz x y z h1 h2 h3
  obtain ⟨nb, noff, rfl, hnb, hnc⟩ := hN (by simp)
  have n0 := (BU.cell (p := ⟨nb, noff + 0, none⟩) hnb).trans (hnc 0 (by simp))
  have n1 := (BU.cell (p := ⟨nb, noff + 1, none⟩) hnb).trans (hnc 1 (by simp))
  have n2 := (BU.cell (p := ⟨nb, noff + 2, none⟩) hnb).trans (hnc 2 (by simp))
  simp at n0 n1 n2
  have hU' : Aside _ := hU
  clear hnc SV BU hH hN hnb
  go_enter Tryz.func42, Tryz.ntmps42
  go_upto_region 41 with fail
  rw [← hU]
  clear hU
  go_still_tail 11, (by kernel_rfl)
  change wpList _ _ _ _ _ U.drew
  clear n0 n1 n2 hU'
  generalize U.drew = V at hc ⊢
  go_wp2_with fail
  refine hc.mono ?_
  rintro e w' ⟨rfl, h⟩
  have SH : Aside _ := h
  clear h hc
  go_wp2_with fail
  go_ret
  exact ⟨_, rfl, SH.out, none, 0, rfl, fun h => absurd h (by simp), fun _ _ h => by cases h⟩

set_option maxHeartbeats 4000000 in
set_option maxRecDepth 1000000 in
theorem door_rotate_f (T : TypeId) (rv : Value) (lt : It → It → Bool) (gl gs : Nat) (rl rs : Value) (w0 : World) (blk off n : Nat) (F : FaceOk T rv lt w0 blk off n gl gs rl rs) (d : Array It) (w : World) (S : St2 w0 blk off d w) (hn : d.size = n) (hsz : n < 4611686018427387904) (x y z : Nat) (h1 : x < y) (h2 : y < z) (h3 : z ≤ n) :
    Calls Tryz.prog 96 #[.iface T rv, .int .i64 x, .int .i64 y, .int .i64 z] w fun e w' => e = .returned (.tuple #[]) ∧ St2 w0 blk off (rotate d x y z) w' := by
  have hc := rotate_f T rv lt gl gs rl rs w0 blk off n F d w S hn hsz x y z h1 h2 h3
  clear S
  clear F
  go_enter Tryz.func96, Tryz.ntmps96
  go_wp2_with fail
  refine hc.mono ?_
  rintro e w' ⟨rfl, h⟩
  go_wp2_with fail
  go_end0
  exact ⟨rfl, h⟩

set_option maxHeartbeats 4000000 in
set_option maxRecDepth 1000000 in
theorem by_rotate_f (o : Ordr) (HO : CmpC (vOrd o) (cfO o)) (b cap n ncap : Nat) (na : Option Addr) (d : Array It) (x y z : Nat) (hd : d.size = n) (hsz : n < 4611686018427387904) (h1 : x < y) (h2 : y < z) (h3 : z ≤ n) (W : World) (hb : b < W.heap.size) (hH : Holds2 W b 0 d) (hN : RdN W na #[(x : Int), (y : Int), (z : Int)]) :
    Calls Tryz.prog 44 #[.int .i64 16, .agg #[.slice (some ⟨b, 0, none⟩) n cap, .int .i64 o.kind, .int .i64 o.shift, .int .u64 o.m0, .int .u64 o.m1, .int .u64 o.m2], .slice na 3 ncap] W fun e W' => ∃ nv, e = .returned nv ∧ St2 W b 0 (rotate d x y z) W' ∧ NumsAt W W' nv #[] := by
  obtain ⟨k, s, m0, m1, m2⟩ := o
  obtain ⟨U, hU⟩ : ∃ U, U = (W.alloc (.cells #[.slice (some ⟨b, 0, none⟩) n cap, .int .i64 k, .int .i64 s, .int .u64 m0, .int .u64 m1, .int .u64 m2] 61)).alloc (.cells #[.int .i64 0] 3) := ⟨_, rfl⟩
  have BU : Below W.heap.size W U := by rw [hU]; exact Below.next (below_alloc _ _) (below_alloc _ _)
  have SV : St2 W b 0 d U.drew := ⟨fun i hi => Holds2_of_block (BU.block b hb) hH i hi, Nat.lt_of_lt_of_le hb BU.size, by rw [hU]; exact ((World.grownBy_alloc W _ _).trans (World.grownBy_alloc _ _ _)).trans ⟨rfl, rfl, rfl, Nat.le_refl _, fun _ _ _ => rfl⟩⟩
  have hc := door_rotate_f 61 (vFace b cap n ⟨k, s, m0, m1, m2⟩) (ltC (cfO ⟨k, s, m0, m1, m2⟩)) 197 198 (vFace b cap n ⟨k, s, m0, m1, m2⟩) (vFace b cap n ⟨k, s, m0, m1, m2⟩) W b 0 n (face_ok ⟨k, s, m0, m1, m2⟩ HO W b cap n) d U.drew SV hd hsz x y z h1 h2 h3
  obtain ⟨nb, noff, rfl, hnb, hnc⟩ := hN (by simp)
  have n0 := (BU.cell (p := ⟨nb, noff + 0, none⟩) hnb).trans (hnc 0 (by simp))
  have n1 := (BU.cell (p := ⟨nb, noff + 1, none⟩) hnb).trans (hnc 1 (by simp))
  have n2 := (BU.cell (p := ⟨nb, noff + 2, none⟩) hnb).trans (hnc 2 (by simp))
  simp at n0 n1 n2
  have hbox : U.heap[W.heap.size]? = some (.cells #[.slice (some ⟨b, 0, none⟩) n cap, .int .i64 k, .int .i64 s, .int .u64 m0, .int .u64 m1, .int .u64 m2] 61 (0, 0)) := by rw [hU]; exact (heap_alloc_old _ _ (by simp)).trans (heap_alloc_new _ _)
  have q0 := cell_at (i := 0) hbox rfl
  have q1 := cell_at (i := 1) hbox rfl
  have q2 := cell_at (i := 2) hbox rfl
  have q3 := cell_at (i := 3) hbox rfl
  have q4 := cell_at (i := 4) hbox rfl
  have q5 := cell_at (i := 5) hbox rfl
  clear hbox
  have hU' : Aside _ := hU
  clear hnc SV BU hH hN hnb
  go_enter Tryz.func44, Tryz.ntmps44
  go_upto_region 41 with fail
  rw [← hU]
  clear hU
  go_still_tail 11, (by kernel_rfl)
  change wpList _ _ _ _ _ U.drew
  clear n0 n1 n2 q0 q1 q2 q3 q4 q5 hU'
  generalize U.drew = V at hc ⊢
  go_wp2_with fail
  refine hc.mono ?_
  rintro e w' ⟨rfl, h⟩
  have SH : Aside _ := h
  clear h hc
  go_wp2_with fail
  go_ret
  exact ⟨_, rfl, SH.out, none, 0, rfl, fun h => absurd h (by simp), fun _ _ h => by cases h⟩

set_option maxHeartbeats 4000000 in
set_option maxRecDepth 1000000 in
theorem door_rotate_o (w0 : World) (blk off cap n : Nat) (d : Array Int) (w : World) (S : St1 e64 w0 blk off d w) (hn : d.size = n) (hsz : n < 4611686018427387904) (x y z : Nat) (h1 : x < y) (h2 : y < z) (h3 : z ≤ n) :
    Calls Tryz.prog 113 #[.slice (some ⟨blk, off, none⟩) n cap, .int .i64 x, .int .i64 y, .int .i64 z] w fun e w' => e = .returned (.tuple #[]) ∧ St1 e64 w0 blk off (rotate d x y z) w' := by
  have hc := rotate_o w0 blk off cap n d w S hn hsz x y z h1 h2 h3
  clear S
  go_enter Tryz.func113, Tryz.ntmps113
  go_wp2_with fail
  refine hc.mono ?_
  rintro e w' ⟨rfl, h⟩
  go_wp2_with fail
  go_end0
  exact ⟨rfl, h⟩

set_option maxHeartbeats 4000000 in
set_option maxRecDepth 1000000 in
theorem by_rotate_o (b cap n ncap : Nat) (na : Option Addr) (d : Array Int) (x y z : Nat) (hd : d.size = n) (hsz : n < 4611686018427387904) (h1 : x < y) (h2 : y < z) (h3 : z ≤ n) (W : World) (hb : b < W.heap.size) (hH : Holds e64 W b 0 d) (hN : RdN W na #[(x : Int), (y : Int), (z : Int)]) :
    Calls Tryz.prog 45 #[.int .i64 16, .slice (some ⟨b, 0, none⟩) n cap, .slice na 3 ncap] W fun e W' => ∃ nv, e = .returned nv ∧ St1 e64 W b 0 (rotate d x y z) W' ∧ NumsAt W W' nv #[] := by
  obtain ⟨U, hU⟩ : ∃ U, U = W.alloc (.cells #[.int .i64 0] 3) := ⟨_, rfl⟩
  have BU : Below W.heap.size W U := by rw [hU]; exact below_alloc _ _
  have SV : St1 e64 W b 0 d U.drew := ⟨fun i hi => ⟨(World.cell?_of_block (BU.block b hb)).trans (hH i hi).1, (World.frozen?_of_block (BU.block b hb)).trans (hH i hi).2⟩, Nat.lt_of_lt_of_le hb BU.size, by rw [hU]; exact (World.grownBy_alloc W _ _).trans ⟨rfl, rfl, rfl, Nat.le_refl _, fun _ _ _ => rfl⟩⟩
  have hc := door_rotate_o W b 0 cap n d U.drew SV hd hsz x y z h1 h2 h3
  obtain ⟨nb, noff, rfl, hnb, hnc⟩ := hN (by simp)
  have n0 := (BU.cell (p := ⟨nb, noff + 0, none⟩) hnb).trans (hnc 0 (by simp))
  have n1 := (BU.cell (p := ⟨nb, noff + 1, none⟩) hnb).trans (hnc 1 (by simp))
  have n2 := (BU.cell (p := ⟨nb, noff + 2, none⟩) hnb).trans (hnc 2 (by simp))
  simp at n0 n1 n2
  have hU' : Aside _ := hU
  clear hnc SV BU hH hN hnb
  go_enter Tryz.func45, Tryz.ntmps45
  go_upto_region 41 with fail
  rw [← hU]
  clear hU
  go_still_tail 10, (by kernel_rfl)
  change wpList _ _ _ _ _ U.drew
  clear n0 n1 n2 hU'
  generalize U.drew = V at hc ⊢
  go_wp2_with fail
  refine hc.mono ?_
  rintro e w' ⟨rfl, h⟩
  have SH : Aside _ := h
  clear h hc
  go_wp2_with fail
  go_ret
  exact ⟨_, rfl, SH.out, none, 0, rfl, fun h => absurd h (by simp), fun _ _ h => by cases h⟩

end Go.Proofs.YtglgmkikegbchaaGreat

/- Inner of rotate, whatever the text (printed by gen/law.py). -/
namespace Go.Proofs.YtglgmkikegbchaaGreat
open Go.RowKit Go.Sort

theorem inner_rotate (t : Int) (a : Option Addr) (cap : Nat) (d : Array It) (o : Ordr) (na : Option Addr) (ncap : Nat) (X Y Z : Nat) (h1 : X < Y) (h2 : Y < Z) (h3 : Z ≤ d.size) (w : World) (h : Rd2 w a d) (hN : RdN w na #[(X : Int), (Y : Int), (Z : Int)]) (hsz : d.size ≤ 2000) (hs0 : 0 ≤ o.shift) (hs1 : o.shift < 64) (ht : textB t d o = true) :
    Calls Tryz.prog 28 #[.int .i64 t, .int .i64 16, .slice a d.size cap, vOrd o, .slice na 3 ncap] w (InnerTo w (rotate d X Y Z) #[]) := by
  have HO := cmpC_of o hs0 hs1
  refine inner_any t 16 a cap d _ o na 3 ncap _ _ w h hN hsz (size_rotate (ltC (cfO o)) d X Y Z h1 h2 h3) ht many_16 (fun W b c hb hH hN => by_rotate_c o HO b c d.size ncap na d X Y Z rfl (by omega) h1 h2 h3 W hb hH hN) (fun W b c hb hH hN => by_rotate_f o HO b c d.size ncap na d X Y Z rfl (by omega) h1 h2 h3 W hb hH hN) (fun ek ks eb => ?_)
  subst eb
  rw [bare_size] at hsz h3
  have hl := ltC_bare o ek
  exact ⟨rotate ks X Y Z, nat_rotate (fun k => ((k, 0) : It)) rfl ks X Y Z, fun W b c hb hH hN => by_rotate_o b c ks.size ncap na ks X Y Z rfl (by omega) h1 h2 h3 W hb hH hN⟩
end Go.Proofs.YtglgmkikegbchaaGreat

/- byCompare, byLess, byKeys: stable (printed by gen/by.py). -/
namespace Go.Proofs.YtglgmkikegbchaaGreat
open Go.RowKit Go.Sort

set_option maxHeartbeats 4000000 in
set_option maxRecDepth 1000000 in
theorem door_stable_c (O : Value) (cf : It → It → Int) (hC : CmpC O cf) (w0 : World) (blk off cap n : Nat) (d : Array It) (w : World) (S : St2 w0 blk off d w) (hn : d.size = n) (hsz : n < 4611686018427387904) (x : Nat) (h1 : x ≤ n) :
    Calls Tryz.prog 76 #[.slice (some ⟨blk, off, none⟩) n cap, .int .i64 x, .func (.func 43) #[O] #[]] w fun e w' => e = .returned (.tuple #[]) ∧ St2 w0 blk off (stable (ltC cf) d x) w' := by
  have hc := stable_c O cf hC w0 blk off cap n d w S hn hsz x h1
  clear S hC
  go_enter Tryz.func76, Tryz.ntmps76
  go_wp2_with fail
  refine hc.mono ?_
  rintro e w' ⟨rfl, h⟩
  go_wp2_with fail
  go_end0
  exact ⟨rfl, h⟩

set_option maxHeartbeats 4000000 in
set_option maxRecDepth 1000000 in
theorem by_stable_c (o : Ordr) (HO : CmpC (vOrd o) (cfO o)) (b cap n ncap : Nat) (na : Option Addr) (d : Array It) (x : Nat) (hd : d.size = n) (hsz : n < 4611686018427387904) (h1 : x ≤ n) (W : World) (hb : b < W.heap.size) (hH : Holds2 W b 0 d) (hN : RdN W na #[(x : Int)]) :
    Calls Tryz.prog 42 #[.int .i64 14, .slice (some ⟨b, 0, none⟩) n cap, .func (.func 43) #[vOrd o] #[], .slice na 1 ncap] W fun e W' => ∃ nv, e = .returned nv ∧ St2 W b 0 (stable (ltC (cfO o)) d x) W' ∧ NumsAt W W' nv #[] := by
  obtain ⟨U, hU⟩ : ∃ U, U = W.alloc (.cells #[.int .i64 0] 3) := ⟨_, rfl⟩
  have BU : Below W.heap.size W U := by rw [hU]; exact below_alloc _ _
  have SV : St2 W b 0 d U := ⟨fun i hi => Holds2_of_block (BU.block b hb) hH i hi, Nat.lt_of_lt_of_le hb BU.size, by rw [hU]; exact (World.grownBy_alloc W _ _)⟩
  have hc := door_stable_c (vOrd o) (cfO o) HO W b 0 cap n d U SV hd hsz x h1
  obtain ⟨nb, noff, rfl, hnb, hnc⟩ := hN (by simp)
  have n0 := (BU.cell (p := ⟨nb, noff + 0, none⟩) hnb).trans (hnc 0 (by simp))
  simp at n0
  have hU' : Aside _ := hU
  clear hnc SV BU hH hN hnb
  go_enter Tryz.func42, Tryz.ntmps42
  go_upto_region 37 with fail
  rw [← hU]
  clear hU
  go_wp2_with fail
  clear n0 hU'
  generalize U = V at hc ⊢
  refine hc.mono ?_
  rintro e w' ⟨rfl, h⟩
  have SH : Aside _ := h
  clear h hc
  go_wp2_with fail
  go_ret
  exact ⟨_, rfl, SH.out, none, 0, rfl, fun h => absurd h (by simp), fun _ _ h => by cases h⟩

set_option maxHeartbeats 4000000 in
set_option maxRecDepth 1000000 in
theorem door_stable_f (T : TypeId) (rv : Value) (lt : It → It → Bool) (gl gs : Nat) (rl rs : Value) (w0 : World) (blk off n : Nat) (F : FaceOk T rv lt w0 blk off n gl gs rl rs) (d : Array It) (w : World) (S : St2 w0 blk off d w) (hn : d.size = n) (hsz : n < 4611686018427387904) (x : Nat) (h1 : x ≤ n) :
    Calls Tryz.prog 94 #[.iface T rv, .int .i64 x] w fun e w' => e = .returned (.tuple #[]) ∧ St2 w0 blk off (stable lt d x) w' := by
  have hc := stable_f T rv lt gl gs rl rs w0 blk off n F d w S hn hsz x h1
  clear S
  clear F
  go_enter Tryz.func94, Tryz.ntmps94
  go_wp2_with fail
  refine hc.mono ?_
  rintro e w' ⟨rfl, h⟩
  go_wp2_with fail
  go_end0
  exact ⟨rfl, h⟩

set_option maxHeartbeats 4000000 in
set_option maxRecDepth 1000000 in
theorem by_stable_f (o : Ordr) (HO : CmpC (vOrd o) (cfO o)) (b cap n ncap : Nat) (na : Option Addr) (d : Array It) (x : Nat) (hd : d.size = n) (hsz : n < 4611686018427387904) (h1 : x ≤ n) (W : World) (hb : b < W.heap.size) (hH : Holds2 W b 0 d) (hN : RdN W na #[(x : Int)]) :
    Calls Tryz.prog 44 #[.int .i64 14, .agg #[.slice (some ⟨b, 0, none⟩) n cap, .int .i64 o.kind, .int .i64 o.shift, .int .u64 o.m0, .int .u64 o.m1, .int .u64 o.m2], .slice na 1 ncap] W fun e W' => ∃ nv, e = .returned nv ∧ St2 W b 0 (stable (ltC (cfO o)) d x) W' ∧ NumsAt W W' nv #[] := by
  obtain ⟨k, s, m0, m1, m2⟩ := o
  obtain ⟨U, hU⟩ : ∃ U, U = (W.alloc (.cells #[.slice (some ⟨b, 0, none⟩) n cap, .int .i64 k, .int .i64 s, .int .u64 m0, .int .u64 m1, .int .u64 m2] 61)).alloc (.cells #[.int .i64 0] 3) := ⟨_, rfl⟩
  have BU : Below W.heap.size W U := by rw [hU]; exact Below.next (below_alloc _ _) (below_alloc _ _)
  have SV : St2 W b 0 d U.drew := ⟨fun i hi => Holds2_of_block (BU.block b hb) hH i hi, Nat.lt_of_lt_of_le hb BU.size, by rw [hU]; exact ((World.grownBy_alloc W _ _).trans (World.grownBy_alloc _ _ _)).trans ⟨rfl, rfl, rfl, Nat.le_refl _, fun _ _ _ => rfl⟩⟩
  have hc := door_stable_f 61 (vFace b cap n ⟨k, s, m0, m1, m2⟩) (ltC (cfO ⟨k, s, m0, m1, m2⟩)) 197 198 (vFace b cap n ⟨k, s, m0, m1, m2⟩) (vFace b cap n ⟨k, s, m0, m1, m2⟩) W b 0 n (face_ok ⟨k, s, m0, m1, m2⟩ HO W b cap n) d U.drew SV hd hsz x h1
  obtain ⟨nb, noff, rfl, hnb, hnc⟩ := hN (by simp)
  have n0 := (BU.cell (p := ⟨nb, noff + 0, none⟩) hnb).trans (hnc 0 (by simp))
  simp at n0
  have hbox : U.heap[W.heap.size]? = some (.cells #[.slice (some ⟨b, 0, none⟩) n cap, .int .i64 k, .int .i64 s, .int .u64 m0, .int .u64 m1, .int .u64 m2] 61 (0, 0)) := by rw [hU]; exact (heap_alloc_old _ _ (by simp)).trans (heap_alloc_new _ _)
  have q0 := cell_at (i := 0) hbox rfl
  have q1 := cell_at (i := 1) hbox rfl
  have q2 := cell_at (i := 2) hbox rfl
  have q3 := cell_at (i := 3) hbox rfl
  have q4 := cell_at (i := 4) hbox rfl
  have q5 := cell_at (i := 5) hbox rfl
  clear hbox
  have hU' : Aside _ := hU
  clear hnc SV BU hH hN hnb
  go_enter Tryz.func44, Tryz.ntmps44
  go_upto_region 37 with fail
  rw [← hU]
  clear hU
  go_still_tail 5, (by kernel_rfl)
  change wpList _ _ _ _ _ U.drew
  clear n0 q0 q1 q2 q3 q4 q5 hU'
  generalize U.drew = V at hc ⊢
  go_wp2_with fail
  refine hc.mono ?_
  rintro e w' ⟨rfl, h⟩
  have SH : Aside _ := h
  clear h hc
  go_wp2_with fail
  go_ret
  exact ⟨_, rfl, SH.out, none, 0, rfl, fun h => absurd h (by simp), fun _ _ h => by cases h⟩

set_option maxHeartbeats 4000000 in
set_option maxRecDepth 1000000 in
theorem door_stable_o (w0 : World) (blk off cap n : Nat) (d : Array Int) (w : World) (S : St1 e64 w0 blk off d w) (hn : d.size = n) (hsz : n < 4611686018427387904) (x : Nat) (h1 : x ≤ n) :
    Calls Tryz.prog 111 #[.slice (some ⟨blk, off, none⟩) n cap, .int .i64 x] w fun e w' => e = .returned (.tuple #[]) ∧ St1 e64 w0 blk off (stable ltInt d x) w' := by
  have hc := stable_o w0 blk off cap n d w S hn hsz x h1
  clear S
  go_enter Tryz.func111, Tryz.ntmps111
  go_wp2_with fail
  refine hc.mono ?_
  rintro e w' ⟨rfl, h⟩
  go_wp2_with fail
  go_end0
  exact ⟨rfl, h⟩

set_option maxHeartbeats 4000000 in
set_option maxRecDepth 1000000 in
theorem by_stable_o (b cap n ncap : Nat) (na : Option Addr) (d : Array Int) (x : Nat) (hd : d.size = n) (hsz : n < 4611686018427387904) (h1 : x ≤ n) (W : World) (hb : b < W.heap.size) (hH : Holds e64 W b 0 d) (hN : RdN W na #[(x : Int)]) :
    Calls Tryz.prog 45 #[.int .i64 14, .slice (some ⟨b, 0, none⟩) n cap, .slice na 1 ncap] W fun e W' => ∃ nv, e = .returned nv ∧ St1 e64 W b 0 (stable ltInt d x) W' ∧ NumsAt W W' nv #[] := by
  obtain ⟨U, hU⟩ : ∃ U, U = W.alloc (.cells #[.int .i64 0] 3) := ⟨_, rfl⟩
  have BU : Below W.heap.size W U := by rw [hU]; exact below_alloc _ _
  have SV : St1 e64 W b 0 d U := ⟨fun i hi => ⟨(World.cell?_of_block (BU.block b hb)).trans (hH i hi).1, (World.frozen?_of_block (BU.block b hb)).trans (hH i hi).2⟩, Nat.lt_of_lt_of_le hb BU.size, by rw [hU]; exact (World.grownBy_alloc W _ _)⟩
  have hc := door_stable_o W b 0 cap n d U SV hd hsz x h1
  obtain ⟨nb, noff, rfl, hnb, hnc⟩ := hN (by simp)
  have n0 := (BU.cell (p := ⟨nb, noff + 0, none⟩) hnb).trans (hnc 0 (by simp))
  simp at n0
  have hU' : Aside _ := hU
  clear hnc SV BU hH hN hnb
  go_enter Tryz.func45, Tryz.ntmps45
  go_upto_region 37 with fail
  rw [← hU]
  clear hU
  go_wp2_with fail
  clear n0 hU'
  generalize U = V at hc ⊢
  refine hc.mono ?_
  rintro e w' ⟨rfl, h⟩
  have SH : Aside _ := h
  clear h hc
  go_wp2_with fail
  go_ret
  exact ⟨_, rfl, SH.out, none, 0, rfl, fun h => absurd h (by simp), fun _ _ h => by cases h⟩

end Go.Proofs.YtglgmkikegbchaaGreat

/- Inner of stable, whatever the text (printed by gen/law.py). -/
namespace Go.Proofs.YtglgmkikegbchaaGreat
open Go.RowKit Go.Sort

theorem inner_stable (t : Int) (a : Option Addr) (cap : Nat) (d : Array It) (o : Ordr) (na : Option Addr) (ncap : Nat) (X : Nat) (h1 : X ≤ d.size) (w : World) (h : Rd2 w a d) (hN : RdN w na #[(X : Int)]) (hsz : d.size ≤ 2000) (hs0 : 0 ≤ o.shift) (hs1 : o.shift < 64) (ht : textB t d o = true) :
    Calls Tryz.prog 28 #[.int .i64 t, .int .i64 14, .slice a d.size cap, vOrd o, .slice na 1 ncap] w (InnerTo w (stable (ltC (cfO o)) d X) #[]) := by
  have HO := cmpC_of o hs0 hs1
  refine inner_any t 14 a cap d _ o na 1 ncap _ _ w h hN hsz (size_stable (ltC (cfO o)) d X h1) ht many_14 (fun W b c hb hH hN => by_stable_c o HO b c d.size ncap na d X rfl (by omega) h1 W hb hH hN) (fun W b c hb hH hN => by_stable_f o HO b c d.size ncap na d X rfl (by omega) h1 W hb hH hN) (fun ek ks eb => ?_)
  subst eb
  rw [bare_size] at hsz h1
  have hl := ltC_bare o ek
  exact ⟨stable ltInt ks X, nat_stable (fun k => ((k, 0) : It)) rfl (ltC (cfO o)) ltInt hl ks X, fun W b c hb hH hN => by_stable_o b c ks.size ncap na ks X rfl (by omega) h1 W hb hH hN⟩
end Go.Proofs.YtglgmkikegbchaaGreat

/- byCompare, byLess, byKeys: symMerge (printed by gen/by.py). -/
namespace Go.Proofs.YtglgmkikegbchaaGreat
open Go.RowKit Go.Sort

set_option maxHeartbeats 4000000 in
set_option maxRecDepth 1000000 in
theorem door_symMerge_c (O : Value) (cf : It → It → Int) (hC : CmpC O cf) (w0 : World) (blk off cap n : Nat) (d : Array It) (w : World) (S : St2 w0 blk off d w) (hn : d.size = n) (hsz : n < 4611686018427387904) (x y z : Nat) (h1 : x < y) (h2 : y < z) (h3 : z ≤ n) :
    Calls Tryz.prog 77 #[.slice (some ⟨blk, off, none⟩) n cap, .int .i64 x, .int .i64 y, .int .i64 z, .func (.func 43) #[O] #[]] w fun e w' => e = .returned (.tuple #[]) ∧ St2 w0 blk off (symMerge (ltC cf) d x y z) w' := by
  have hc := symMerge_c O cf hC w0 blk off cap n d w S hn hsz x y z h1 h2 h3
  clear S hC
  go_enter Tryz.func77, Tryz.ntmps77
  go_wp2_with fail
  refine hc.mono ?_
  rintro e w' ⟨rfl, h⟩
  go_wp2_with fail
  go_end0
  exact ⟨rfl, h⟩

set_option maxHeartbeats 4000000 in
set_option maxRecDepth 1000000 in
theorem by_symMerge_c (o : Ordr) (HO : CmpC (vOrd o) (cfO o)) (b cap n ncap : Nat) (na : Option Addr) (d : Array It) (x y z : Nat) (hd : d.size = n) (hsz : n < 4611686018427387904) (h1 : x < y) (h2 : y < z) (h3 : z ≤ n) (W : World) (hb : b < W.heap.size) (hH : Holds2 W b 0 d) (hN : RdN W na #[(x : Int), (y : Int), (z : Int)]) :
    Calls Tryz.prog 42 #[.int .i64 15, .slice (some ⟨b, 0, none⟩) n cap, .func (.func 43) #[vOrd o] #[], .slice na 3 ncap] W fun e W' => ∃ nv, e = .returned nv ∧ St2 W b 0 (symMerge (ltC (cfO o)) d x y z) W' ∧ NumsAt W W' nv #[] := by
  obtain ⟨U, hU⟩ : ∃ U, U = W.alloc (.cells #[.int .i64 0] 3) := ⟨_, rfl⟩
  have BU : Below W.heap.size W U := by rw [hU]; exact below_alloc _ _
  have SV : St2 W b 0 d U.drew := ⟨fun i hi => Holds2_of_block (BU.block b hb) hH i hi, Nat.lt_of_lt_of_le hb BU.size, by rw [hU]; exact (World.grownBy_alloc W _ _).trans ⟨rfl, rfl, rfl, Nat.le_refl _, fun _ _ _ => rfl⟩⟩
  have hc := door_symMerge_c (vOrd o) (cfO o) HO W b 0 cap n d U.drew SV hd hsz x y z h1 h2 h3
  obtain ⟨nb, noff, rfl, hnb, hnc⟩ := hN (by simp)
  have n0 := (BU.cell (p := ⟨nb, noff + 0, none⟩) hnb).trans (hnc 0 (by simp))
  have n1 := (BU.cell (p := ⟨nb, noff + 1, none⟩) hnb).trans (hnc 1 (by simp))
  have n2 := (BU.cell (p := ⟨nb, noff + 2, none⟩) hnb).trans (hnc 2 (by simp))
  simp at n0 n1 n2
  have hU' : Aside _ := hU
  clear hnc SV BU hH hN hnb
  go_enter Tryz.func42, Tryz.ntmps42
  go_upto_region 39 with fail
  rw [← hU]
  clear hU
  go_still_tail 11, (by kernel_rfl)
  change wpList _ _ _ _ _ U.drew
  clear n0 n1 n2 hU'
  generalize U.drew = V at hc ⊢
  go_wp2_with fail
  refine hc.mono ?_
  rintro e w' ⟨rfl, h⟩
  have SH : Aside _ := h
  clear h hc
  go_wp2_with fail
  go_ret
  exact ⟨_, rfl, SH.out, none, 0, rfl, fun h => absurd h (by simp), fun _ _ h => by cases h⟩

set_option maxHeartbeats 4000000 in
set_option maxRecDepth 1000000 in
theorem door_symMerge_f (T : TypeId) (rv : Value) (lt : It → It → Bool) (gl gs : Nat) (rl rs : Value) (w0 : World) (blk off n : Nat) (F : FaceOk T rv lt w0 blk off n gl gs rl rs) (d : Array It) (w : World) (S : St2 w0 blk off d w) (hn : d.size = n) (hsz : n < 4611686018427387904) (x y z : Nat) (h1 : x < y) (h2 : y < z) (h3 : z ≤ n) :
    Calls Tryz.prog 95 #[.iface T rv, .int .i64 x, .int .i64 y, .int .i64 z] w fun e w' => e = .returned (.tuple #[]) ∧ St2 w0 blk off (symMerge lt d x y z) w' := by
  have hc := symMerge_f T rv lt gl gs rl rs w0 blk off n F d w S hn hsz x y z h1 h2 h3
  clear S
  clear F
  go_enter Tryz.func95, Tryz.ntmps95
  go_wp2_with fail
  refine hc.mono ?_
  rintro e w' ⟨rfl, h⟩
  go_wp2_with fail
  go_end0
  exact ⟨rfl, h⟩

set_option maxHeartbeats 4000000 in
set_option maxRecDepth 1000000 in
theorem by_symMerge_f (o : Ordr) (HO : CmpC (vOrd o) (cfO o)) (b cap n ncap : Nat) (na : Option Addr) (d : Array It) (x y z : Nat) (hd : d.size = n) (hsz : n < 4611686018427387904) (h1 : x < y) (h2 : y < z) (h3 : z ≤ n) (W : World) (hb : b < W.heap.size) (hH : Holds2 W b 0 d) (hN : RdN W na #[(x : Int), (y : Int), (z : Int)]) :
    Calls Tryz.prog 44 #[.int .i64 15, .agg #[.slice (some ⟨b, 0, none⟩) n cap, .int .i64 o.kind, .int .i64 o.shift, .int .u64 o.m0, .int .u64 o.m1, .int .u64 o.m2], .slice na 3 ncap] W fun e W' => ∃ nv, e = .returned nv ∧ St2 W b 0 (symMerge (ltC (cfO o)) d x y z) W' ∧ NumsAt W W' nv #[] := by
  obtain ⟨k, s, m0, m1, m2⟩ := o
  obtain ⟨U, hU⟩ : ∃ U, U = (W.alloc (.cells #[.slice (some ⟨b, 0, none⟩) n cap, .int .i64 k, .int .i64 s, .int .u64 m0, .int .u64 m1, .int .u64 m2] 61)).alloc (.cells #[.int .i64 0] 3) := ⟨_, rfl⟩
  have BU : Below W.heap.size W U := by rw [hU]; exact Below.next (below_alloc _ _) (below_alloc _ _)
  have SV : St2 W b 0 d U.drew := ⟨fun i hi => Holds2_of_block (BU.block b hb) hH i hi, Nat.lt_of_lt_of_le hb BU.size, by rw [hU]; exact ((World.grownBy_alloc W _ _).trans (World.grownBy_alloc _ _ _)).trans ⟨rfl, rfl, rfl, Nat.le_refl _, fun _ _ _ => rfl⟩⟩
  have hc := door_symMerge_f 61 (vFace b cap n ⟨k, s, m0, m1, m2⟩) (ltC (cfO ⟨k, s, m0, m1, m2⟩)) 197 198 (vFace b cap n ⟨k, s, m0, m1, m2⟩) (vFace b cap n ⟨k, s, m0, m1, m2⟩) W b 0 n (face_ok ⟨k, s, m0, m1, m2⟩ HO W b cap n) d U.drew SV hd hsz x y z h1 h2 h3
  obtain ⟨nb, noff, rfl, hnb, hnc⟩ := hN (by simp)
  have n0 := (BU.cell (p := ⟨nb, noff + 0, none⟩) hnb).trans (hnc 0 (by simp))
  have n1 := (BU.cell (p := ⟨nb, noff + 1, none⟩) hnb).trans (hnc 1 (by simp))
  have n2 := (BU.cell (p := ⟨nb, noff + 2, none⟩) hnb).trans (hnc 2 (by simp))
  simp at n0 n1 n2
  have hbox : U.heap[W.heap.size]? = some (.cells #[.slice (some ⟨b, 0, none⟩) n cap, .int .i64 k, .int .i64 s, .int .u64 m0, .int .u64 m1, .int .u64 m2] 61 (0, 0)) := by rw [hU]; exact (heap_alloc_old _ _ (by simp)).trans (heap_alloc_new _ _)
  have q0 := cell_at (i := 0) hbox rfl
  have q1 := cell_at (i := 1) hbox rfl
  have q2 := cell_at (i := 2) hbox rfl
  have q3 := cell_at (i := 3) hbox rfl
  have q4 := cell_at (i := 4) hbox rfl
  have q5 := cell_at (i := 5) hbox rfl
  clear hbox
  have hU' : Aside _ := hU
  clear hnc SV BU hH hN hnb
  go_enter Tryz.func44, Tryz.ntmps44
  go_upto_region 39 with fail
  rw [← hU]
  clear hU
  go_still_tail 11, (by kernel_rfl)
  change wpList _ _ _ _ _ U.drew
  clear n0 n1 n2 q0 q1 q2 q3 q4 q5 hU'
  generalize U.drew = V at hc ⊢
  go_wp2_with fail
  refine hc.mono ?_
  rintro e w' ⟨rfl, h⟩
  have SH : Aside _ := h
  clear h hc
  go_wp2_with fail
  go_ret
  exact ⟨_, rfl, SH.out, none, 0, rfl, fun h => absurd h (by simp), fun _ _ h => by cases h⟩

set_option maxHeartbeats 4000000 in
set_option maxRecDepth 1000000 in
theorem door_symMerge_o (w0 : World) (blk off cap n : Nat) (d : Array Int) (w : World) (S : St1 e64 w0 blk off d w) (hn : d.size = n) (hsz : n < 4611686018427387904) (x y z : Nat) (h1 : x < y) (h2 : y < z) (h3 : z ≤ n) :
    Calls Tryz.prog 112 #[.slice (some ⟨blk, off, none⟩) n cap, .int .i64 x, .int .i64 y, .int .i64 z] w fun e w' => e = .returned (.tuple #[]) ∧ St1 e64 w0 blk off (symMerge ltInt d x y z) w' := by
  have hc := symMerge_o w0 blk off cap n d w S hn hsz x y z h1 h2 h3
  clear S
  go_enter Tryz.func112, Tryz.ntmps112
  go_wp2_with fail
  refine hc.mono ?_
  rintro e w' ⟨rfl, h⟩
  go_wp2_with fail
  go_end0
  exact ⟨rfl, h⟩

set_option maxHeartbeats 4000000 in
set_option maxRecDepth 1000000 in
theorem by_symMerge_o (b cap n ncap : Nat) (na : Option Addr) (d : Array Int) (x y z : Nat) (hd : d.size = n) (hsz : n < 4611686018427387904) (h1 : x < y) (h2 : y < z) (h3 : z ≤ n) (W : World) (hb : b < W.heap.size) (hH : Holds e64 W b 0 d) (hN : RdN W na #[(x : Int), (y : Int), (z : Int)]) :
    Calls Tryz.prog 45 #[.int .i64 15, .slice (some ⟨b, 0, none⟩) n cap, .slice na 3 ncap] W fun e W' => ∃ nv, e = .returned nv ∧ St1 e64 W b 0 (symMerge ltInt d x y z) W' ∧ NumsAt W W' nv #[] := by
  obtain ⟨U, hU⟩ : ∃ U, U = W.alloc (.cells #[.int .i64 0] 3) := ⟨_, rfl⟩
  have BU : Below W.heap.size W U := by rw [hU]; exact below_alloc _ _
  have SV : St1 e64 W b 0 d U.drew := ⟨fun i hi => ⟨(World.cell?_of_block (BU.block b hb)).trans (hH i hi).1, (World.frozen?_of_block (BU.block b hb)).trans (hH i hi).2⟩, Nat.lt_of_lt_of_le hb BU.size, by rw [hU]; exact (World.grownBy_alloc W _ _).trans ⟨rfl, rfl, rfl, Nat.le_refl _, fun _ _ _ => rfl⟩⟩
  have hc := door_symMerge_o W b 0 cap n d U.drew SV hd hsz x y z h1 h2 h3
  obtain ⟨nb, noff, rfl, hnb, hnc⟩ := hN (by simp)
  have n0 := (BU.cell (p := ⟨nb, noff + 0, none⟩) hnb).trans (hnc 0 (by simp))
  have n1 := (BU.cell (p := ⟨nb, noff + 1, none⟩) hnb).trans (hnc 1 (by simp))
  have n2 := (BU.cell (p := ⟨nb, noff + 2, none⟩) hnb).trans (hnc 2 (by simp))
  simp at n0 n1 n2
  have hU' : Aside _ := hU
  clear hnc SV BU hH hN hnb
  go_enter Tryz.func45, Tryz.ntmps45
  go_upto_region 39 with fail
  rw [← hU]
  clear hU
  go_still_tail 10, (by kernel_rfl)
  change wpList _ _ _ _ _ U.drew
  clear n0 n1 n2 hU'
  generalize U.drew = V at hc ⊢
  go_wp2_with fail
  refine hc.mono ?_
  rintro e w' ⟨rfl, h⟩
  have SH : Aside _ := h
  clear h hc
  go_wp2_with fail
  go_ret
  exact ⟨_, rfl, SH.out, none, 0, rfl, fun h => absurd h (by simp), fun _ _ h => by cases h⟩

end Go.Proofs.YtglgmkikegbchaaGreat

/- Inner of symMerge, whatever the text (printed by gen/law.py). -/
namespace Go.Proofs.YtglgmkikegbchaaGreat
open Go.RowKit Go.Sort

theorem inner_symMerge (t : Int) (a : Option Addr) (cap : Nat) (d : Array It) (o : Ordr) (na : Option Addr) (ncap : Nat) (X Y Z : Nat) (h1 : X < Y) (h2 : Y < Z) (h3 : Z ≤ d.size) (w : World) (h : Rd2 w a d) (hN : RdN w na #[(X : Int), (Y : Int), (Z : Int)]) (hsz : d.size ≤ 2000) (hs0 : 0 ≤ o.shift) (hs1 : o.shift < 64) (ht : textB t d o = true) :
    Calls Tryz.prog 28 #[.int .i64 t, .int .i64 15, .slice a d.size cap, vOrd o, .slice na 3 ncap] w (InnerTo w (symMerge (ltC (cfO o)) d X Y Z) #[]) := by
  have HO := cmpC_of o hs0 hs1
  refine inner_any t 15 a cap d _ o na 3 ncap _ _ w h hN hsz (size_symMerge (ltC (cfO o)) d X Y Z h1 h2 h3) ht many_15 (fun W b c hb hH hN => by_symMerge_c o HO b c d.size ncap na d X Y Z rfl (by omega) h1 h2 h3 W hb hH hN) (fun W b c hb hH hN => by_symMerge_f o HO b c d.size ncap na d X Y Z rfl (by omega) h1 h2 h3 W hb hH hN) (fun ek ks eb => ?_)
  subst eb
  rw [bare_size] at hsz h3
  have hl := ltC_bare o ek
  exact ⟨symMerge ltInt ks X Y Z, nat_symMerge (fun k => ((k, 0) : It)) rfl (ltC (cfO o)) ltInt hl _ X Y Z ks (Nat.le_refl _), fun W b c hb hH hN => by_symMerge_o b c ks.size ncap na ks X Y Z rfl (by omega) h1 h2 h3 W hb hH hN⟩
end Go.Proofs.YtglgmkikegbchaaGreat
