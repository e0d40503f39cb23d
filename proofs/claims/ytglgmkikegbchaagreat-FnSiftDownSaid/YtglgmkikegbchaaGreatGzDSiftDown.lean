/- spec.Done of siftDown (its frame printed by gen/done.py). -/
import Derived.Test.YtglgmkikegbchaaGreatGzSift
import Derived.Test.YtglgmkikegbchaaGreatGBS
import Derived.Test.YtglgmkikegbchaaGreatGzNumB
import Derived.Test.YtglgmkikegbchaaGreatGMu
namespace Go.Proofs.YtglgmkikegbchaaGreat
open Go.RowKit Go.Sort Go.Maps



set_option maxHeartbeats 8000000 in
set_option maxRecDepth 1000000 in
theorem done_siftDown (a na ra : Option Addr) (cap n ncap b cap' rcap : Nat) (d : Array It) (o : Ordr) (x y z : Nat) (w : World) (h : Arg w a cap d) (hn : d.size = n) (hsz : n ≤ 2000) (hs0 : 0 ≤ o.shift) (hs1 : o.shift < 64) (hk3 : o.kind ≠ 3) (hr : inR d) (hN : RdN w na #[(x : Int), (y : Int), (z : Int)])
    (hb : b < w.heap.size) (hH : Holds2 w b 0 (siftDown (ltC (cfO o)) y z x d)) (hc' : n ≤ cap') (hR : RdN w ra #[]) (h1 : x < y) (h2 : z + y ≤ n) (er : (heapB (ltC (cfO o)) d y z (2 * x + 1) && heapB (ltC (cfO o)) d y z (2 * x + 2)) = true) :
    Calls Tryz.prog 35 #[.int .i64 1, .slice a n cap, vOrd o, .slice na 3 ncap, .slice (some ⟨b, 0, none⟩) n cap', .slice ra 0 rcap] w fun e w' => e = .returned (.bool true) ∧ Below w.heap.size w w' := by
  obtain ⟨d', hd'⟩ : ∃ d', d' = (siftDown (ltC (cfO o)) y z x d) := ⟨_, rfl⟩
  rw [← hd'] at hH
  have hp : PermIn (z) (z + y) d d' := by rw [hd']; exact perm_siftDown (ltC (cfO o)) d x y z (by omega) (by omega)
  have hn' : d'.size = n := hp.1.trans hn
  have hsk := sift_sunk (lt := ltC (cfO o)) (by rw [ltC_by o hk3]; exact swo_ltBy _) y z _ x d (Nat.le_refl _) (by omega) (by rw [Bool.and_eq_true] at er; exact heapB_true.1 er.1) (by rw [Bool.and_eq_true] at er; exact heapB_true.1 er.2)
  rw [← hd'] at hsk
  have HSK : Aside ((∀ i, i < y → belowB i x = false → d'[z + i]! = d[z + i]!) ∧ HeapAt (ltC (cfO o)) (fun i => d'[z + i]!) y x) := ⟨hsk.same, hsk.heap⟩
  clear hsk er
  clear hd'
  obtain ⟨k, s, m0, m1, m2⟩ := o
  have B0 : Aside (Below w.heap.size w (w.alloc (.cells #[.int .i64 k, .int .i64 s, .int .u64 m0, .int .u64 m1, .int .u64 m2] 26))) := below_alloc _ _
  have K0 : Aside (BoxK (w.alloc (.cells #[.int .i64 k, .int .i64 s, .int .u64 m0, .int .u64 m1, .int .u64 m2] 26)) w.heap.size k s m0 m1 m2) := boxK_new _ _ _ _ _ _ _
  have R' : Rd2 w (some ⟨b, 0, none⟩) d' := fun _ => ⟨b, 0, rfl, hb, fun i hi => ⟨(hH i hi).1, (hH i hi).2.1⟩⟩
  have hNum : ∀ W, Below w.heap.size w W → Calls Tryz.prog 26 #[.int .i64 1, .int .i64 n, .slice na 3 ncap] W fun e w' => e = .returned (.tuple #[.int .i64 ((z : Int)), .int .i64 ((z : Int) + (y : Int)), .bool true]) ∧ Below W.heap.size W w' := fun W hW => by
    have := numbers_1 (n : Int) na ncap x y z W (hN.keep hW) ⟨by omega, by omega⟩ ⟨by omega, by omega⟩ ⟨by omega, by omega⟩
    rwa [show (decide ((x : Int) < (y : Int)) && decide ((z : Int) + (y : Int) ≤ (n : Int))) = true by simp only [Bool.and_eq_true, decide_eq_true_eq]; omega] at this
  have hKept := fun W (hW : Below w.heap.size w W) => kept_calls a cap cap' n (z) (z + y) b d d' W (h.keep hW) (R'.keep hW) hn hc' hsz hr (by omega) (by omega) hp
  push_cast at hKept
  go_enter Tryz.func35, Tryz.ntmps35
  go_wp2_with fail
  refine (hNum _ B0.out).mono ?_
  rintro e w1 ⟨rfl, hb1⟩
  have B1 : Aside (Below w.heap.size w w1) := Below.next B0.out hb1
  have K1 : Aside (BoxK w1 w.heap.size k s m0 m1 m2) := K0.out.keep hb1
  clear hb1 B0 K0
  go_wp2_with fail
  refine (hKept _ B1.out).mono ?_
  rintro e w2 ⟨rfl, hb1⟩
  have B2 : Aside (Below w.heap.size w w2) := Below.next B1.out hb1
  have K2 : Aside (BoxK w2 w.heap.size k s m0 m1 m2) := K1.out.keep hb1
  clear hb1 B1 K1 hKept hNum
  obtain ⟨nb, noff, rfl, hnb, hnc⟩ := hN (by simp)
  have n0 := (B2.out.cell (p := ⟨nb, noff + 0, none⟩) hnb).trans (hnc 0 (by simp))
  have n1 := (B2.out.cell (p := ⟨nb, noff + 1, none⟩) hnb).trans (hnc 1 (by simp))
  have n2 := (B2.out.cell (p := ⟨nb, noff + 2, none⟩) hnb).trans (hnc 2 (by simp))
  simp at n0 n1 n2
  have HN2 : RdN w2 (some ⟨nb, noff, none⟩) #[(x : Int), (y : Int), (z : Int)] := fun _ => ⟨nb, noff, rfl, Nat.lt_of_lt_of_le hnb B2.out.size, fun i hi => (B2.out.cell (p := ⟨nb, noff + i, none⟩) hnb).trans (hnc i hi)⟩
  have RA : Aside (Rd2 w2 a d) := h.rd.keep B2.out
  have RB : Aside (Rd2 w2 (some ⟨b, 0, none⟩) d') := R'.keep B2.out
  have HZ : Aside (a = none → d.size = 0 ∧ cap = 0) := h.nil
  have HR : Aside (RdN w2 ra #[]) := hR.keep B2.out
  have HC : Aside (d.size = n ∧ d'.size = n ∧ d.size ≤ cap ∧ n ≤ cap' ∧ inR d ∧ PermIn (z) (z + y) d d') := ⟨hn, hn', h.le, hc', hr, hp⟩
  clear h hr hH hp R' hN hnc hnb hc' hn hn' hR hb
  have HO : Aside (0 ≤ s ∧ s < 64) := ⟨hs0, hs1⟩
  obtain ⟨hn, hn', hca, hcb, -, -⟩ := HC.out
  obtain ⟨blk, off, rfl, _, _⟩ := RA.out (by omega)
  obtain ⟨_, k0, k1, k2, k3, k4⟩ := K2.out
  have C1 : Aside (Calls Tryz.prog 52 #[.slice (some ⟨blk, off, none⟩) n cap, .slice (some ⟨b, 0, none⟩) n cap', .agg #[.int .i64 k, .int .i64 s, .int .u64 m0, .int .u64 m1, .int .u64 m2], .slice (some ⟨nb, noff, none⟩) 3 ncap] w2 fun e w' => e = .returned (.bool true) ∧ Below w2.heap.size w2 w') :=
    sifted_calls blk off b _ cap cap' n ncap d d' ⟨k, s, m0, m1, m2⟩ x y z w2 RA.out RB.out hn hn' (by omega) hcb hsz HO.out.1 HO.out.2 HN2 h1 h2 HSK.out.1 HSK.out.2
  clear n0 n1 n2 RA RB HC HR HSK HZ hn hn' K2 HO HN2
  go_wp2_with fail
  refine Calls.mono C1.out ?_
  rintro e w3 ⟨rfl, hb⟩
  have B3 : Aside _ := Below.next B2.out hb
  clear C1 k0 k1 k2 k3 k4 hb
  go_wp2_with fail
  go_ret
  exact ⟨rfl, B3.out⟩
end Go.Proofs.YtglgmkikegbchaaGreat
