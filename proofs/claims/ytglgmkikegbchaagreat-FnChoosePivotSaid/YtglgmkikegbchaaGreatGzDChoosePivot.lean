/- spec.Done of choosePivot (its frame printed by gen/done.py). -/
import Derived.Test.YtglgmkikegbchaaGreatzArg
import Derived.Test.YtglgmkikegbchaaGreatzPerm
import Derived.Test.YtglgmkikegbchaaGreatzNumC
import Derived.Test.YtglgmkikegbchaaGreatzDoes
import Derived.Test.YtglgmkikegbchaaGreatSame
import Derived.Test.YtglgmkikegbchaaGreatGC4
namespace Go.Proofs.YtglgmkikegbchaaGreat
open Go.RowKit Go.Sort Go.Maps



set_option maxHeartbeats 8000000 in
set_option maxRecDepth 1000000 in
theorem done_choosePivot (a na ra : Option Addr) (cap n ncap b cap' rcap : Nat) (d : Array It) (o : Ordr) (x y : Nat) (w : World) (h : Arg w a cap d) (hn : d.size = n) (hsz : n ≤ 2000) (hs0 : 0 ≤ o.shift) (hs1 : o.shift < 64) (hk3 : o.kind ≠ 3) (hr : inR d) (hN : RdN w na #[(x : Int), (y : Int)])
    (hb : b < w.heap.size) (hH : Holds2 w b 0 (d)) (hc' : n ≤ cap') (hR : RdN w ra #[((choosePivot (ltC (cfO o)) d x y).1 : Int), hintCode (choosePivot (ltC (cfO o)) d x y).2]) (h1 : x < y) (h2 : y ≤ n) :
    Calls Tryz.prog 35 #[.int .i64 8, .slice a n cap, vOrd o, .slice na 2 ncap, .slice (some ⟨b, 0, none⟩) n cap', .slice ra 2 rcap] w fun e w' => e = .returned (.bool true) ∧ Below w.heap.size w w' := by
  obtain ⟨d', hd'⟩ : ∃ d', d' = (d) := ⟨_, rfl⟩
  rw [← hd'] at hH
  have hp : PermIn (x) (y) d d' := by rw [hd']; exact permIn_refl d x y
  have hn' : d'.size = n := hp.1.trans hn
  have hsame : d' = d := hd'
  have HG : Aside (d' = d) := hsame
  clear hsame
  clear hd'
  obtain ⟨k, s, m0, m1, m2⟩ := o
  have B0 : Aside (Below w.heap.size w (w.alloc (.cells #[.int .i64 k, .int .i64 s, .int .u64 m0, .int .u64 m1, .int .u64 m2] 26))) := below_alloc _ _
  have K0 : Aside (BoxK (w.alloc (.cells #[.int .i64 k, .int .i64 s, .int .u64 m0, .int .u64 m1, .int .u64 m2] 26)) w.heap.size k s m0 m1 m2) := boxK_new _ _ _ _ _ _ _
  have R' : Rd2 w (some ⟨b, 0, none⟩) d' := fun _ => ⟨b, 0, rfl, hb, fun i hi => ⟨(hH i hi).1, (hH i hi).2.1⟩⟩
  have hNum : ∀ W, Below w.heap.size w W → Calls Tryz.prog 26 #[.int .i64 8, .int .i64 n, .slice na 2 ncap] W fun e w' => e = .returned (.tuple #[.int .i64 ((x : Int)), .int .i64 ((y : Int)), .bool true]) ∧ Below W.heap.size W w' := fun W hW => by
    have := numbers_8 (n : Int) na ncap x y W (hN.keep hW) ⟨by omega, by omega⟩ ⟨by omega, by omega⟩
    rwa [show ((decide ((0 : Int) ≤ (x : Int)) && decide ((x : Int) ≤ (y : Int)) && decide ((y : Int) ≤ (n : Int))) && decide ((x : Int) < (y : Int))) = true by simp only [Bool.and_eq_true, decide_eq_true_eq]; omega] at this
  have hKept := fun W (hW : Below w.heap.size w W) => kept_calls a cap cap' n (x) (y) b d d' W (h.keep hW) (R'.keep hW) hn hc' hsz hr (by omega) (by omega) hp
  push_cast at hKept
  go_enter Tryz.func35, Tryz.ntmps35
  go_wp2_with fail
  refine (hNum _ B0.out).mono ?_
  rintro e w1 ⟨rfl, hb1⟩
  have B1 : Aside (Below w.heap.size w w1) := Below.next B0.out hb1
  have K1 : Aside (BoxK w1 w.heap.size k s m0 m1 m2) := K0.out.keep hb1
  clear hb1 B0 K0
  go_wp2_with fail
  refine (hKept _ B1.out).mono ?_
  rintro e w2 ⟨rfl, hb1⟩
  have B2 : Aside (Below w.heap.size w w2) := Below.next B1.out hb1
  have K2 : Aside (BoxK w2 w.heap.size k s m0 m1 m2) := K1.out.keep hb1
  clear hb1 B1 K1 hKept hNum
  obtain ⟨nb, noff, rfl, hnb, hnc⟩ := hN (by simp)
  have n0 := (B2.out.cell (p := ⟨nb, noff + 0, none⟩) hnb).trans (hnc 0 (by simp))
  have n1 := (B2.out.cell (p := ⟨nb, noff + 1, none⟩) hnb).trans (hnc 1 (by simp))
  simp at n0 n1
  have HN2 : RdN w2 (some ⟨nb, noff, none⟩) #[(x : Int), (y : Int)] := fun _ => ⟨nb, noff, rfl, Nat.lt_of_lt_of_le hnb B2.out.size, fun i hi => (B2.out.cell (p := ⟨nb, noff + i, none⟩) hnb).trans (hnc i hi)⟩
  have RA : Aside (Rd2 w2 a d) := h.rd.keep B2.out
  have RB : Aside (Rd2 w2 (some ⟨b, 0, none⟩) d') := R'.keep B2.out
  have HZ : Aside (a = none → d.size = 0 ∧ cap = 0) := h.nil
  have HR : Aside (RdN w2 ra #[((choosePivot (ltC (cfO (⟨k, s, m0, m1, m2⟩ : Ordr))) d x y).1 : Int), hintCode (choosePivot (ltC (cfO (⟨k, s, m0, m1, m2⟩ : Ordr))) d x y).2]) := hR.keep B2.out
  have HC : Aside (d.size = n ∧ d'.size = n ∧ d.size ≤ cap ∧ n ≤ cap' ∧ inR d ∧ PermIn (x) (y) d d') := ⟨hn, hn', h.le, hc', hr, hp⟩
  clear h hr hH hp R' hN hnc hnb hc' hn hn' hR hb
  have HY : Aside (x < y ∧ y ≤ n ∧ 0 ≤ s ∧ s < 64 ∧ k ≠ 3 ∧ RdN w2 (some ⟨nb, noff, none⟩) #[(x : Int), (y : Int)]) := ⟨h1, h2, hs0, hs1, hk3, HN2⟩
  obtain ⟨hn, hn', hca, -, -, -⟩ := HC.out
  obtain ⟨blk, off, rfl, _, _⟩ := RA.out (by omega)
  have hcan : n ≤ cap := by omega
  have hS := same_calls (some ⟨blk, off, none⟩) (some ⟨b, 0, none⟩) cap cap' d d' w2 RA.out RB.out (by omega)
  rw [hn, hn', HG.out, decide_eq_true rfl] at hS
  have hCh : ∀ q, Calls Tryz.prog 55 #[.int .i64 8, .slice (some ⟨blk, off, none⟩) n cap, .agg #[.int .i64 k, .int .i64 s, .int .u64 m0, .int .u64 m1, .int .u64 m2], .slice (some ⟨nb, noff, none⟩) 2 ncap, .slice ra 2 rcap] (w2.drewN q) fun e w' => e = .returned (.bool true) ∧ Below (w2.drewN q).heap.size (w2.drewN q) w' := fun q => by
    have B3 : Below w2.heap.size w2 (w2.drewN q) := below_drewN (Below.refl _ _) q
    obtain ⟨y1, y2, y3, y4, y5, y6⟩ := HY.out
    exact chosen_choosePivot blk off (some ⟨nb, noff, none⟩) ra cap n ncap rcap d ⟨k, s, m0, m1, m2⟩ x y (w2.drewN q) (RA.out.keep B3) hn hsz hcan y3 y4 y5 y1 y2 (y6.keep B3) (HR.out.keep B3)
  obtain ⟨_, k0, k1, k2, k3, k4⟩ := K2.out
  replace k0 := fun q => (World.cell?_drewN w2 q ⟨w.heap.size, 0, none⟩).trans k0
  replace k1 := fun q => (World.cell?_drewN w2 q ⟨w.heap.size, 1, none⟩).trans k1
  replace k2 := fun q => (World.cell?_drewN w2 q ⟨w.heap.size, 2, none⟩).trans k2
  replace k3 := fun q => (World.cell?_drewN w2 q ⟨w.heap.size, 3, none⟩).trans k3
  replace k4 := fun q => (World.cell?_drewN w2 q ⟨w.heap.size, 4, none⟩).trans k4
  clear n0 n1 RA RB HC HG hn hn' K2 HR HY HZ HN2
  go_wp2_with fail
  refine hS.mono ?_
  rintro e w3 ⟨rfl, q, rfl⟩
  have B3 : Aside _ := below_drewN B2.out q
  have hC := hCh q
  clear hCh hS B2
  go_wp2_with fail
  refine hC.mono ?_
  rintro e w4 ⟨rfl, hb4⟩
  have B4 := Below.next B3.out hb4
  go_wp2_with fail
  go_ret
  exact ⟨rfl, B4⟩
end Go.Proofs.YtglgmkikegbchaaGreat
