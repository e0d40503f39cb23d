/- spec.Done of breakPatterns (its frame printed by gen/done.py). -/
import Derived.Test.YtglgmkikegbchaaGreatzArg
import Derived.Test.YtglgmkikegbchaaGreatzPerm
import Derived.Test.YtglgmkikegbchaaGreatzNumA
import Derived.Test.YtglgmkikegbchaaGreatzDoes
import Derived.Test.YtglgmkikegbchaaGreatPd
import Derived.Test.YtglgmkikegbchaaGreatSame
namespace Go.Proofs.YtglgmkikegbchaaGreat
open Go.RowKit Go.Sort Go.Maps



set_option maxHeartbeats 8000000 in
set_option maxRecDepth 1000000 in
theorem done_breakPatterns (a na ra : Option Addr) (cap n ncap b cap' rcap : Nat) (d : Array It) (o : Ordr) (x y : Nat) (w : World) (h : Arg w a cap d) (hn : d.size = n) (hsz : n ≤ 2000) (hs0 : 0 ≤ o.shift) (hs1 : o.shift < 64) (hk3 : o.kind ≠ 3) (hr : inR d) (hN : RdN w na #[(x : Int), (y : Int)])
    (hb : b < w.heap.size) (hH : Holds2 w b 0 (breakPatterns d x y)) (hc' : n ≤ cap') (hR : RdN w ra #[]) (h1 : x ≤ y) (h2 : y ≤ n) :
    Calls Tryz.prog 35 #[.int .i64 7, .slice a n cap, vOrd o, .slice na 2 ncap, .slice (some ⟨b, 0, none⟩) n cap', .slice ra 0 rcap] w fun e w' => e = .returned (.bool true) ∧ Below w.heap.size w w' := by
  obtain ⟨d', hd'⟩ : ∃ d', d' = (breakPatterns d x y) := ⟨_, rfl⟩
  rw [← hd'] at hH
  have hp : PermIn (x) (y) d d' := by rw [hd']; exact perm_breakPatterns (ltC (cfO o)) d x y (by omega) (by omega)
  have hn' : d'.size = n := hp.1.trans hn
  have hsame : ¬ 8 ≤ y - x → d' = d := fun h => by rw [hd']; exact breakPatterns_few d x y h
  have HG : Aside (¬ 8 ≤ y - x → d' = d) := hsame
  clear hsame
  clear hd'
  obtain ⟨k, s, m0, m1, m2⟩ := o
  have B0 : Aside (Below w.heap.size w (w.alloc (.cells #[.int .i64 k, .int .i64 s, .int .u64 m0, .int .u64 m1, .int .u64 m2] 26))) := below_alloc _ _
  have K0 : Aside (BoxK (w.alloc (.cells #[.int .i64 k, .int .i64 s, .int .u64 m0, .int .u64 m1, .int .u64 m2] 26)) w.heap.size k s m0 m1 m2) := boxK_new _ _ _ _ _ _ _
  have R' : Rd2 w (some ⟨b, 0, none⟩) d' := fun _ => ⟨b, 0, rfl, hb, fun i hi => ⟨(hH i hi).1, (hH i hi).2.1⟩⟩
  have hNum : ∀ W, Below w.heap.size w W → Calls Tryz.prog 26 #[.int .i64 7, .int .i64 n, .slice na 2 ncap] W fun e w' => e = .returned (.tuple #[.int .i64 ((x : Int)), .int .i64 ((y : Int)), .bool true]) ∧ Below W.heap.size W w' := fun W hW => by
    have := numbers_7 (n : Int) na ncap x y W (hN.keep hW) ⟨by omega, by omega⟩ ⟨by omega, by omega⟩
    rwa [show (decide ((0 : Int) ≤ (x : Int)) && decide ((x : Int) ≤ (y : Int)) && decide ((y : Int) ≤ (n : Int))) = true by simp only [Bool.and_eq_true, decide_eq_true_eq]; omega] at this
  have hKept := fun W (hW : Below w.heap.size w W) => kept_calls a cap cap' n (x) (y) b d d' W (h.keep hW) (R'.keep hW) hn hc' hsz hr (by omega) (by omega) hp
  push_cast at hKept
  go_enter Tryz.func35, Tryz.ntmps35
  go_wp2_with fail
  refine (hNum _ B0.out).mono ?_
  rintro e w1 ⟨rfl, hb1⟩
  have B1 : Aside (Below w.heap.size w w1) := Below.next B0.out hb1
  have K1 : Aside (BoxK w1 w.heap.size k s m0 m1 m2) := K0.out.keep hb1
  clear hb1 B0 K0
  go_wp2_with fail
  refine (hKept _ B1.out).mono ?_
  rintro e w2 ⟨rfl, hb1⟩
  have B2 : Aside (Below w.heap.size w w2) := Below.next B1.out hb1
  have K2 : Aside (BoxK w2 w.heap.size k s m0 m1 m2) := K1.out.keep hb1
  clear hb1 B1 K1 hKept hNum
  obtain ⟨nb, noff, rfl, hnb, hnc⟩ := hN (by simp)
  have n0 := (B2.out.cell (p := ⟨nb, noff + 0, none⟩) hnb).trans (hnc 0 (by simp))
  have n1 := (B2.out.cell (p := ⟨nb, noff + 1, none⟩) hnb).trans (hnc 1 (by simp))
  simp at n0 n1
  have RA : Aside (Rd2 w2 a d) := h.rd.keep B2.out
  have RB : Aside (Rd2 w2 (some ⟨b, 0, none⟩) d') := R'.keep B2.out
  have HZ : Aside (a = none → d.size = 0 ∧ cap = 0) := h.nil
  have HR : Aside (RdN w2 ra #[]) := hR.keep B2.out
  have HC : Aside (d.size = n ∧ d'.size = n ∧ d.size ≤ cap ∧ n ≤ cap' ∧ inR d ∧ PermIn (x) (y) d d') := ⟨hn, hn', h.le, hc', hr, hp⟩
  clear h hr hH hp R' hN hnc hnb hc' hn hn' hR hb
  have hxy : x ≤ y := h1
  have hyn : y ≤ n := h2
  clear K2 HR HZ
  by_cases h8 : 8 ≤ y - x
  · have h8z : 8 ≤ (y : Int) - (x : Int) := by omega
    clear n0 n1 RA RB HC HG
    go_wp2_with fail
    go_ret
    exact ⟨rfl, B2.out⟩
  · have h8z : ¬ 8 ≤ (y : Int) - (x : Int) := by omega
    obtain ⟨hn, hn', -, -, -, -⟩ := HC.out
    have hS := same_calls a (some ⟨b, 0, none⟩) cap cap' d d' w2 RA.out RB.out (by omega)
    rw [hn, hn', HG.out h8, decide_eq_true rfl] at hS
    clear n0 n1 RA RB HC HG hn hn'
    go_wp2_with fail
    refine hS.mono ?_
    rintro e w3 ⟨rfl, q, rfl⟩
    have B3 := below_drewN B2.out q
    go_wp2_with fail
    go_ret
    exact ⟨rfl, B3⟩
end Go.Proofs.YtglgmkikegbchaaGreat
