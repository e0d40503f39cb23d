/- spec.Done of pdqsort (its frame printed by gen/done.py). -/
import Derived.Test.YtglgmkikegbchaaGreatGzRdyB
import Derived.Test.YtglgmkikegbchaaGreatGBS
import Derived.Test.YtglgmkikegbchaaGreatGzNumB
import Derived.Test.YtglgmkikegbchaaGreatGSOrd
import Derived.Test.YtglgmkikegbchaaGreatGMu
import Derived.Test.YtglgmkikegbchaaGreatPi
namespace Go.Proofs.YtglgmkikegbchaaGreat
open Go.RowKit Go.Sort Go.Maps



set_option maxHeartbeats 8000000 in
set_option maxRecDepth 1000000 in
theorem done_pdqsort (a na ra : Option Addr) (cap n ncap b cap' rcap : Nat) (d : Array It) (o : Ordr) (x y z : Nat) (w : World) (h : Arg w a cap d) (hn : d.size = n) (hsz : n ≤ 2000) (hs0 : 0 ≤ o.shift) (hs1 : o.shift < 64) (hk3 : o.kind ≠ 3) (hr : inR d) (hN : RdN w na #[(x : Int), (y : Int), (z : Int)])
    (hb : b < w.heap.size) (hH : Holds2 w b 0 (pdq (ltC (cfO o)) d x y z true true)) (hc' : n ≤ cap') (hR : RdN w ra #[]) (h1 : x ≤ y) (h2 : y ≤ n) (h3 : z ≤ 64) (er : frontB (ltC (cfO o)) d x y = true) :
    Calls Tryz.prog 35 #[.int .i64 3, .slice a n cap, vOrd o, .slice na 3 ncap, .slice (some ⟨b, 0, none⟩) n cap', .slice ra 0 rcap] w fun e w' => e = .returned (.bool true) ∧ Below w.heap.size w w' := by
  obtain ⟨d', hd'⟩ : ∃ d', d' = (pdq (ltC (cfO o)) d x y z true true) := ⟨_, rfl⟩
  rw [← hd'] at hH
  have hp : PermIn (x) (y) d d' := by rw [hd']; exact (pdq_sorts (ltC (cfO o)) (by rw [ltC_by o hk3]; exact swo_ltBy _) d x y z true true h1 (by omega) (below_front er)).1
  have hn' : d'.size = n := hp.1.trans hn
  have hasc : ascB (ltC (cfO o)) (d'.extract x y) = true := by
    rw [hd', ltC_by o hk3]
    exact asc_sorted (by rw [← ltC_by o hk3, ← hd']; omega) (pdq_sorts _ (swo_ltBy (muO o)) d x y z true true h1 (by omega) (by rw [← ltC_by o hk3]; exact below_front er)).2
  clear er
  have HG0 : Aside (ascB (ltC (cfO o)) (d'.extract x y) = true) := hasc
  clear hasc
  clear hd'
  obtain ⟨k, s, m0, m1, m2⟩ := o
  have B0 : Aside (Below w.heap.size w (w.alloc (.cells #[.int .i64 k, .int .i64 s, .int .u64 m0, .int .u64 m1, .int .u64 m2] 26))) := below_alloc _ _
  have K0 : Aside (BoxK (w.alloc (.cells #[.int .i64 k, .int .i64 s, .int .u64 m0, .int .u64 m1, .int .u64 m2] 26)) w.heap.size k s m0 m1 m2) := boxK_new _ _ _ _ _ _ _
  have R' : Rd2 w (some ⟨b, 0, none⟩) d' := fun _ => ⟨b, 0, rfl, hb, fun i hi => ⟨(hH i hi).1, (hH i hi).2.1⟩⟩
  have hNum : ∀ W, Below w.heap.size w W → Calls Tryz.prog 26 #[.int .i64 3, .int .i64 n, .slice na 3 ncap] W fun e w' => e = .returned (.tuple #[.int .i64 ((x : Int)), .int .i64 ((y : Int)), .bool true]) ∧ Below W.heap.size W w' := fun W hW => by
    have := numbers_3 (n : Int) na ncap x y z W (hN.keep hW) ⟨by omega, by omega⟩ ⟨by omega, by omega⟩ ⟨by omega, by omega⟩
    rwa [show ((decide ((0 : Int) ≤ (x : Int)) && decide ((x : Int) ≤ (y : Int)) && decide ((y : Int) ≤ (n : Int))) && decide ((z : Int) ≤ 64)) = true by simp only [Bool.and_eq_true, decide_eq_true_eq]; omega] at this
  have hKept := fun W (hW : Below w.heap.size w W) => kept_calls a cap cap' n (x) (y) b d d' W (h.keep hW) (R'.keep hW) hn hc' hsz hr (by omega) (by omega) hp
  push_cast at hKept
  go_enter Tryz.func35, Tryz.ntmps35
  go_wp2_with fail
  refine (hNum _ B0.out).mono ?_
  rintro e w1 ⟨rfl, hb1⟩
  have B1 : Aside (Below w.heap.size w w1) := Below.next B0.out hb1
  have K1 : Aside (BoxK w1 w.heap.size k s m0 m1 m2) := K0.out.keep hb1
  clear hb1 B0 K0
  go_wp2_with fail
  refine (hKept _ B1.out).mono ?_
  rintro e w2 ⟨rfl, hb1⟩
  have B2 : Aside (Below w.heap.size w w2) := Below.next B1.out hb1
  have K2 : Aside (BoxK w2 w.heap.size k s m0 m1 m2) := K1.out.keep hb1
  clear hb1 B1 K1 hKept hNum
  obtain ⟨nb, noff, rfl, hnb, hnc⟩ := hN (by simp)
  have n0 := (B2.out.cell (p := ⟨nb, noff + 0, none⟩) hnb).trans (hnc 0 (by simp))
  have n1 := (B2.out.cell (p := ⟨nb, noff + 1, none⟩) hnb).trans (hnc 1 (by simp))
  have n2 := (B2.out.cell (p := ⟨nb, noff + 2, none⟩) hnb).trans (hnc 2 (by simp))
  simp at n0 n1 n2
  have RA : Aside (Rd2 w2 a d) := h.rd.keep B2.out
  have RB : Aside (Rd2 w2 (some ⟨b, 0, none⟩) d') := R'.keep B2.out
  have HZ : Aside (a = none → d.size = 0 ∧ cap = 0) := h.nil
  have HR : Aside (RdN w2 ra #[]) := hR.keep B2.out
  have HC : Aside (d.size = n ∧ d'.size = n ∧ d.size ≤ cap ∧ n ≤ cap' ∧ inR d ∧ PermIn (x) (y) d d') := ⟨hn, hn', h.le, hc', hr, hp⟩
  clear h hr hH hp R' hN hnc hnb hc' hn hn' hR hb
  have HG : Aside (ascB (ltC (cfO (⟨k, s, m0, m1, m2⟩ : Ordr))) (d'.extract x y) = true) := HG0
  have HO : Aside (0 ≤ s ∧ s < 64) := ⟨hs0, hs1⟩
  clear HG0 HR HZ
  obtain ⟨hn, hn', hca, hcb, -, -⟩ := HC.out
  obtain ⟨_, k0, k1, k2, k3, k4⟩ := K2.out
  have p0 := cell_regrown k0
  have p1 := cell_regrown k1
  have p2 := cell_regrown k2
  have p3 := cell_regrown k3
  have p4 := cell_regrown k4
  have wA : IntKind.i64.wrap (x : Int) = (x : Int) := by rw [IntKind.wrap_i64]; omega
  have wB : IntKind.i64.wrap (y : Int) = (y : Int) := by rw [IntKind.wrap_i64]; omega
  have oA : (x : Int) ≤ (y : Int) := by omega
  have oB : (y : Int) ≤ (cap' : Int) := by omega
  have C1 : ∀ p : Regrown, Calls Tryz.prog 49 #[.slice (if cap' = x then some ⟨b, 0, none⟩ else some ⟨b, x * 2, none⟩) (y - x) (cap' - x), .agg #[.int .i64 k, .int .i64 s, .int .u64 m0, .int .u64 m1, .int .u64 m2]] (grow (redrawn w2 p.d) p.os) fun e w'' => e = .returned (.bool true) ∧ ∃ p : Regrown, w'' = grow (redrawn w2 p.d) p.os := fun p => by
    have h := asc_calls (if cap' = x then some ⟨b, 0, none⟩ else some ⟨b, 0 + x * 2, none⟩) (cap' - x) (y - x) (d'.extract x y) ⟨k, s, m0, m1, m2⟩ (grow (redrawn w2 p.d) p.os) ((Rd2.partIf x y cap' (by omega) (by omega) RB.out).keep (below_regrown _ _ _)) (by rw [Array.size_extract]; omega) (by omega) HO.out.1 HO.out.2
    rw [HG.out, Nat.zero_add] at h
    exact Calls.regrown_of h
  have mixed : Tryz.prog.follows .mixedOrders = true := by kernel_rfl
  clear n0 n1 n2 RA RB HC HG hn hn' K2 HO k0 k1 k2 k3 k4
  go_wp2_with fail
  refine wp_region_quiet_below (by assumption) (by kernel_rfl) ?_
  repeat' (quiet_step (with_reducible exact C1 _))
  all_goals
    refine wpQuiet_nil ?_
    intro _ hw'
    obtain ⟨⟨nq, osq⟩, hw''⟩ := hw'
    subst hw''
    go_wp2_with fail
  all_goals
    go_ret
    exact ⟨rfl, Below.next B2.out (below_regrown _ _ _)⟩
end Go.Proofs.YtglgmkikegbchaaGreat
