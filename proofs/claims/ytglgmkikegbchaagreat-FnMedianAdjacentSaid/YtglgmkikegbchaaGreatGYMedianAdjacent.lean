/- Texts of this claim, laid together: zByMedianAdjacent, zInMedianAdjacent. -/
import Derived.Test.YtglgmkikegbchaaGreatGWMedianAdjacent
import Derived.Test.YtglgmkikegbchaaGreatGK
import Derived.Test.YtglgmkikegbchaaGreatGI
import Derived.Test.YtglgmkikegbchaaGreatGB
import Derived.Test.YtglgmkikegbchaaGreatGN
import Derived.Test.YtglgmkikegbchaaGreatGP
/- byCompare, byLess, byKeys: medianAdjacent (printed by gen/by.py). -/
namespace Go.Proofs.YtglgmkikegbchaaGreat
open Go.RowKit Go.Sort

set_option maxHeartbeats 4000000 in
set_option maxRecDepth 1000000 in
theorem door_medianAdjacent_c (O : Value) (cf : It → It → Int) (hC : CmpC O cf) (w0 : World) (blk off cap n : Nat) (d : Array It) (w : World) (S : St2 w0 blk off d w) (hn : d.size = n) (hsz : n < 4611686018427387904) (x : Nat) (h1 : 1 ≤ x) (h2 : x + 1 < n) (sb : Nat) (Q : Box1 w0 w blk sb (.int .i64 (0 : Nat))) :
    Calls Tryz.prog 73 #[.slice (some ⟨blk, off, none⟩) n cap, .int .i64 x, .pointer (some ⟨sb, 0, none⟩), .func (.func 43) #[O] #[]] w fun e w' => e = .returned (.int .i64 (medianAdjacent (ltC cf) d x 0).1) ∧ St2 w0 blk off d w' ∧ Box1 w0 w' blk sb (.int .i64 ((medianAdjacent (ltC cf) d x 0).2 : Nat)) := by
  have hc := medianAdjacent_c O cf hC w0 blk off cap n d w S hn hsz x sb 0 h1 h2 (by decide) Q
  obtain ⟨r, hr⟩ : ∃ r, r = medianAdjacent (ltC cf) d x 0 := ⟨_, rfl⟩
  rw [← hr] at hc ⊢
  clear hr S Q hC
  go_enter Tryz.func73, Tryz.ntmps73
  go_wp2_with fail
  refine hc.mono ?_
  rintro e w' ⟨rfl, h, hq⟩
  go_wp2_with fail
  go_ret
  exact ⟨rfl, h, hq⟩

set_option maxHeartbeats 4000000 in
set_option maxRecDepth 1000000 in
theorem by_medianAdjacent_c (o : Ordr) (HO : CmpC (vOrd o) (cfO o)) (b cap n ncap : Nat) (na : Option Addr) (d : Array It) (x : Nat) (hd : d.size = n) (hsz : n < 4611686018427387904) (h1 : 1 ≤ x) (h2 : x + 1 < n) (W : World) (hb : b < W.heap.size) (hH : Holds2 W b 0 d) (hN : RdN W na #[(x : Int)]) :
    Calls Tryz.prog 42 #[.int .i64 11, .slice (some ⟨b, 0, none⟩) n cap, .func (.func 43) #[vOrd o] #[], .slice na 1 ncap] W fun e W' => ∃ nv, e = .returned nv ∧ St2 W b 0 d W' ∧ NumsAt W W' nv #[((medianAdjacent (ltC (cfO o)) d x 0).1 : Int), ((medianAdjacent (ltC (cfO o)) d x 0).2 : Int)] := by
  obtain ⟨r, hr⟩ : ∃ r, r = medianAdjacent (ltC (cfO o)) d x 0 := ⟨_, rfl⟩
  rw [← hr]
  obtain ⟨U, hU⟩ : ∃ U, U = W.alloc (.cells #[.int .i64 0] 3) := ⟨_, rfl⟩
  have BU : Below W.heap.size W U := by rw [hU]; exact below_alloc _ _
  have SV : St2 W b 0 d U := ⟨fun i hi => Holds2_of_block (BU.block b hb) hH i hi, Nat.lt_of_lt_of_le hb BU.size, by rw [hU]; exact (World.grownBy_alloc W _ _)⟩
  have QV : Box1 W U b W.heap.size (.int .i64 (0 : Nat)) := by rw [hU]; exact (Box1.new W W b _ _ (Nat.le_refl _) hb)
  have hc := door_medianAdjacent_c (vOrd o) (cfO o) HO W b 0 cap n d U SV hd hsz x h1 h2 W.heap.size QV
  rw [← hr] at hc
  obtain ⟨nb, noff, rfl, hnb, hnc⟩ := hN (by simp)
  have n0 := (BU.cell (p := ⟨nb, noff + 0, none⟩) hnb).trans (hnc 0 (by simp))
  simp at n0
  have hU' : Aside _ := hU
  clear hr hnc SV BU hH hN hnb QV
  go_enter Tryz.func42, Tryz.ntmps42
  go_upto_region 30 with fail
  rw [← hU]
  clear hU
  go_wp2_with fail
  clear n0 hU'
  generalize U = V at hc ⊢
  refine hc.mono ?_
  rintro e w' ⟨rfl, h, hq⟩
  have SH : Aside _ := h
  clear h hc
  have QH : Aside _ := hq
  have qc := QH.out.cell
  clear hq
  go_wp2_with fail
  go_ret
  exact ⟨_, rfl, SH.out.alloc _, nums_new W w' #[(r.1 : Int), (r.2 : Int)] _ _ (by simp) SH.out.grown.size⟩

set_option maxHeartbeats 4000000 in
set_option maxRecDepth 1000000 in
theorem door_medianAdjacent_f (T : TypeId) (rv : Value) (lt : It → It → Bool) (gl gs : Nat) (rl rs : Value) (w0 : World) (blk off n : Nat) (F : FaceOk T rv lt w0 blk off n gl gs rl rs) (d : Array It) (w : World) (S : St2 w0 blk off d w) (hn : d.size = n) (hsz : n < 4611686018427387904) (x : Nat) (h1 : 1 ≤ x) (h2 : x + 1 < n) (sb : Nat) (Q : Box1 w0 w blk sb (.int .i64 (0 : Nat))) :
    Calls Tryz.prog 91 #[.iface T rv, .int .i64 x, .pointer (some ⟨sb, 0, none⟩)] w fun e w' => e = .returned (.int .i64 (medianAdjacent lt d x 0).1) ∧ St2 w0 blk off d w' ∧ Box1 w0 w' blk sb (.int .i64 ((medianAdjacent lt d x 0).2 : Nat)) := by
  have hc := medianAdjacent_f T rv lt gl gs rl rs w0 blk off n F d w S hn hsz x sb 0 h1 h2 (by decide) Q
  obtain ⟨r, hr⟩ : ∃ r, r = medianAdjacent lt d x 0 := ⟨_, rfl⟩
  rw [← hr] at hc ⊢
  clear hr S Q F
  go_enter Tryz.func91, Tryz.ntmps91
  go_wp2_with fail
  refine hc.mono ?_
  rintro e w' ⟨rfl, h, hq⟩
  go_wp2_with fail
  go_ret
  exact ⟨rfl, h, hq⟩

set_option maxHeartbeats 4000000 in
set_option maxRecDepth 1000000 in
theorem by_medianAdjacent_f (o : Ordr) (HO : CmpC (vOrd o) (cfO o)) (b cap n ncap : Nat) (na : Option Addr) (d : Array It) (x : Nat) (hd : d.size = n) (hsz : n < 4611686018427387904) (h1 : 1 ≤ x) (h2 : x + 1 < n) (W : World) (hb : b < W.heap.size) (hH : Holds2 W b 0 d) (hN : RdN W na #[(x : Int)]) :
    Calls Tryz.prog 44 #[.int .i64 11, .agg #[.slice (some ⟨b, 0, none⟩) n cap, .int .i64 o.kind, .int .i64 o.shift, .int .u64 o.m0, .int .u64 o.m1, .int .u64 o.m2], .slice na 1 ncap] W fun e W' => ∃ nv, e = .returned nv ∧ St2 W b 0 d W' ∧ NumsAt W W' nv #[((medianAdjacent (ltC (cfO o)) d x 0).1 : Int), ((medianAdjacent (ltC (cfO o)) d x 0).2 : Int)] := by
  obtain ⟨r, hr⟩ : ∃ r, r = medianAdjacent (ltC (cfO o)) d x 0 := ⟨_, rfl⟩
  rw [← hr]
  obtain ⟨k, s, m0, m1, m2⟩ := o
  obtain ⟨U, hU⟩ : ∃ U, U = (W.alloc (.cells #[.slice (some ⟨b, 0, none⟩) n cap, .int .i64 k, .int .i64 s, .int .u64 m0, .int .u64 m1, .int .u64 m2] 61)).alloc (.cells #[.int .i64 0] 3) := ⟨_, rfl⟩
  have BU : Below W.heap.size W U := by rw [hU]; exact Below.next (below_alloc _ _) (below_alloc _ _)
  have SV : St2 W b 0 d U.drew := ⟨fun i hi => Holds2_of_block (BU.block b hb) hH i hi, Nat.lt_of_lt_of_le hb BU.size, by rw [hU]; exact ((World.grownBy_alloc W _ _).trans (World.grownBy_alloc _ _ _)).trans ⟨rfl, rfl, rfl, Nat.le_refl _, fun _ _ _ => rfl⟩⟩
  have e1 : (W.alloc (.cells #[.slice (some ⟨b, 0, none⟩) n cap, .int .i64 k, .int .i64 s, .int .u64 m0, .int .u64 m1, .int .u64 m2] 61)).heap.size = W.heap.size + 1 := by simp
  have QV : Box1 W U.drew b (W.heap.size + 1) (.int .i64 (0 : Nat)) := by rw [hU, ← e1]; exact (Box1.new W (W.alloc (.cells #[.slice (some ⟨b, 0, none⟩) n cap, .int .i64 k, .int .i64 s, .int .u64 m0, .int .u64 m1, .int .u64 m2] 61)) b _ _ (by simp) (by simp; omega)).drew
  have hc := door_medianAdjacent_f 61 (vFace b cap n ⟨k, s, m0, m1, m2⟩) (ltC (cfO ⟨k, s, m0, m1, m2⟩)) 197 198 (vFace b cap n ⟨k, s, m0, m1, m2⟩) (vFace b cap n ⟨k, s, m0, m1, m2⟩) W b 0 n (face_ok ⟨k, s, m0, m1, m2⟩ HO W b cap n) d U.drew SV hd hsz x h1 h2 (W.heap.size + 1) QV
  rw [← hr] at hc
  obtain ⟨nb, noff, rfl, hnb, hnc⟩ := hN (by simp)
  have n0 := (BU.cell (p := ⟨nb, noff + 0, none⟩) hnb).trans (hnc 0 (by simp))
  simp at n0
  have hbox : U.heap[W.heap.size]? = some (.cells #[.slice (some ⟨b, 0, none⟩) n cap, .int .i64 k, .int .i64 s, .int .u64 m0, .int .u64 m1, .int .u64 m2] 61 (0, 0)) := by rw [hU]; exact (heap_alloc_old _ _ (by simp)).trans (heap_alloc_new _ _)
  have q0 := cell_at (i := 0) hbox rfl
  have q1 := cell_at (i := 1) hbox rfl
  have q2 := cell_at (i := 2) hbox rfl
  have q3 := cell_at (i := 3) hbox rfl
  have q4 := cell_at (i := 4) hbox rfl
  have q5 := cell_at (i := 5) hbox rfl
  clear hbox
  have hU' : Aside _ := hU
  clear hr hnc SV BU hH hN hnb QV e1
  go_enter Tryz.func44, Tryz.ntmps44
  go_upto_region 30 with fail
  rw [← hU]
  clear hU
  refine wp_region_still_mid 5 (by kernel_rfl) (by kernel_rfl) ?_
  intro Q1 hQ1
  simp only [List.take_succ_cons, List.take_zero, List.drop_succ_cons, List.drop_zero] at hQ1 ⊢
  have HQ : Aside _ := hQ1
  clear hQ1
  repeat still_step
  refine wpStill_nil ?_
  change wpList _ _ _ _ _ U.drew
  clear n0 q0 q1 q2 q3 q4 q5 hU'
  generalize U.drew = V at hc ⊢
  go_wp2_with fail
  refine hc.mono ?_
  rintro e w' ⟨rfl, h, hq⟩
  have SH : Aside _ := h
  clear h hc
  have QH : Aside _ := hq
  have qc := QH.out.cell
  clear hq
  go_wp2_with fail
  refine HQ.out _ _ ?_
  clear HQ
  repeat still_step
  refine wpStill_nil ?_
  go_wp2_with fail
  go_ret
  exact ⟨_, rfl, SH.out.alloc _, nums_new W w' #[(r.1 : Int), (r.2 : Int)] _ _ (by simp) SH.out.grown.size⟩

set_option maxHeartbeats 4000000 in
set_option maxRecDepth 1000000 in
theorem door_medianAdjacent_o (w0 : World) (blk off cap n : Nat) (d : Array Int) (w : World) (S : St1 e64 w0 blk off d w) (hn : d.size = n) (hsz : n < 4611686018427387904) (x : Nat) (h1 : 1 ≤ x) (h2 : x + 1 < n) (sb : Nat) (Q : Box1 w0 w blk sb (.int .i64 (0 : Nat))) :
    Calls Tryz.prog 108 #[.slice (some ⟨blk, off, none⟩) n cap, .int .i64 x, .pointer (some ⟨sb, 0, none⟩)] w fun e w' => e = .returned (.int .i64 (medianAdjacent ltInt d x 0).1) ∧ St1 e64 w0 blk off d w' ∧ Box1 w0 w' blk sb (.int .i64 ((medianAdjacent ltInt d x 0).2 : Nat)) := by
  have hc := medianAdjacent_o w0 blk off cap n d w S hn hsz x sb 0 h1 h2 (by decide) Q
  obtain ⟨r, hr⟩ : ∃ r, r = medianAdjacent ltInt d x 0 := ⟨_, rfl⟩
  rw [← hr] at hc ⊢
  clear hr S Q
  go_enter Tryz.func108, Tryz.ntmps108
  go_wp2_with fail
  refine hc.mono ?_
  rintro e w' ⟨rfl, h, hq⟩
  go_wp2_with fail
  go_ret
  exact ⟨rfl, h, hq⟩

set_option maxHeartbeats 4000000 in
set_option maxRecDepth 1000000 in
theorem by_medianAdjacent_o (b cap n ncap : Nat) (na : Option Addr) (d : Array Int) (x : Nat) (hd : d.size = n) (hsz : n < 4611686018427387904) (h1 : 1 ≤ x) (h2 : x + 1 < n) (W : World) (hb : b < W.heap.size) (hH : Holds e64 W b 0 d) (hN : RdN W na #[(x : Int)]) :
    Calls Tryz.prog 45 #[.int .i64 11, .slice (some ⟨b, 0, none⟩) n cap, .slice na 1 ncap] W fun e W' => ∃ nv, e = .returned nv ∧ St1 e64 W b 0 d W' ∧ NumsAt W W' nv #[((medianAdjacent ltInt d x 0).1 : Int), ((medianAdjacent ltInt d x 0).2 : Int)] := by
  obtain ⟨r, hr⟩ : ∃ r, r = medianAdjacent ltInt d x 0 := ⟨_, rfl⟩
  rw [← hr]
  obtain ⟨U, hU⟩ : ∃ U, U = W.alloc (.cells #[.int .i64 0] 3) := ⟨_, rfl⟩
  have BU : Below W.heap.size W U := by rw [hU]; exact below_alloc _ _
  have SV : St1 e64 W b 0 d U := ⟨fun i hi => ⟨(World.cell?_of_block (BU.block b hb)).trans (hH i hi).1, (World.frozen?_of_block (BU.block b hb)).trans (hH i hi).2⟩, Nat.lt_of_lt_of_le hb BU.size, by rw [hU]; exact (World.grownBy_alloc W _ _)⟩
  have QV : Box1 W U b W.heap.size (.int .i64 (0 : Nat)) := by rw [hU]; exact (Box1.new W W b _ _ (Nat.le_refl _) hb)
  have hc := door_medianAdjacent_o W b 0 cap n d U SV hd hsz x h1 h2 W.heap.size QV
  rw [← hr] at hc
  obtain ⟨nb, noff, rfl, hnb, hnc⟩ := hN (by simp)
  have n0 := (BU.cell (p := ⟨nb, noff + 0, none⟩) hnb).trans (hnc 0 (by simp))
  simp at n0
  have hU' : Aside _ := hU
  clear hr hnc SV BU hH hN hnb QV
  go_enter Tryz.func45, Tryz.ntmps45
  go_upto_region 30 with fail
  rw [← hU]
  clear hU
  go_wp2_with fail
  clear n0 hU'
  generalize U = V at hc ⊢
  refine hc.mono ?_
  rintro e w' ⟨rfl, h, hq⟩
  have SH : Aside _ := h
  clear h hc
  have QH : Aside _ := hq
  have qc := QH.out.cell
  clear hq
  go_wp2_with fail
  go_ret
  exact ⟨_, rfl, SH.out.alloc _, nums_new W w' #[(r.1 : Int), (r.2 : Int)] _ _ (by simp) SH.out.grown.size⟩

end Go.Proofs.YtglgmkikegbchaaGreat

/- Inner of medianAdjacent, whatever the text (printed by gen/law.py). -/
namespace Go.Proofs.YtglgmkikegbchaaGreat
open Go.RowKit Go.Sort

theorem inner_medianAdjacent (t : Int) (a : Option Addr) (cap : Nat) (d : Array It) (o : Ordr) (na : Option Addr) (ncap : Nat) (X : Nat) (h1 : 1 ≤ X) (h2 : X + 1 < d.size) (w : World) (h : Rd2 w a d) (hN : RdN w na #[(X : Int)]) (hsz : d.size ≤ 2000) (hs0 : 0 ≤ o.shift) (hs1 : o.shift < 64) (ht : textB t d o = true) :
    Calls Tryz.prog 28 #[.int .i64 t, .int .i64 11, .slice a d.size cap, vOrd o, .slice na 1 ncap] w (InnerTo w (d) #[((medianAdjacent (ltC (cfO o)) d X 0).1 : Int), ((medianAdjacent (ltC (cfO o)) d X 0).2 : Int)]) := by
  have HO := cmpC_of o hs0 hs1
  refine inner_any t 11 a cap d _ o na 1 ncap _ _ w h hN hsz (rfl) ht many_11 (fun W b c hb hH hN => by_medianAdjacent_c o HO b c d.size ncap na d X rfl (by omega) h1 h2 W hb hH hN) (fun W b c hb hH hN => by_medianAdjacent_f o HO b c d.size ncap na d X rfl (by omega) h1 h2 W hb hH hN) (fun ek ks eb => ?_)
  subst eb
  rw [bare_size] at hsz h2
  have hl := ltC_bare o ek
  have en := nat_medianAdjacent (fun k => ((k, 0) : It)) rfl (ltC (cfO o)) ltInt hl ks X 0
  unfold bare
  rw [en]
  exact ⟨ks, rfl, fun W b c hb hH hN => by_medianAdjacent_o b c ks.size ncap na ks X rfl (by omega) h1 h2 W hb hH hN⟩
end Go.Proofs.YtglgmkikegbchaaGreat
