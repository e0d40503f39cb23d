/- spec.Done of reverseRange (its frame printed by gen/done.py). -/
import Derived.Test.YtglgmkikegbchaaGreatzArg
import Derived.Test.YtglgmkikegbchaaGreatzPerm
import Derived.Test.YtglgmkikegbchaaGreatzNumA
import Derived.Test.YtglgmkikegbchaaGreatzDoes
import Derived.Test.YtglgmkikegbchaaGreatPd
namespace Go.Proofs.YtglgmkikegbchaaGreat
open Go.RowKit Go.Sort Go.Maps



set_option maxHeartbeats 8000000 in
set_option maxRecDepth 1000000 in
theorem done_reverseRange (a na ra : Option Addr) (cap n ncap b cap' rcap : Nat) (d : Array It) (o : Ordr) (x y : Nat) (w : World) (h : Arg w a cap d) (hn : d.size = n) (hsz : n ≤ 2000) (hs0 : 0 ≤ o.shift) (hs1 : o.shift < 64) (hk3 : o.kind ≠ 3) (hr : inR d) (hN : RdN w na #[(x : Int), (y : Int)])
    (hb : b < w.heap.size) (hH : Holds2 w b 0 (reverseRange d x y)) (hc' : n ≤ cap') (hR : RdN w ra #[]) (h1 : x ≤ y) (h2 : y ≤ n) :
    Calls Tryz.prog 35 #[.int .i64 12, .slice a n cap, vOrd o, .slice na 2 ncap, .slice (some ⟨b, 0, none⟩) n cap', .slice ra 0 rcap] w fun e w' => e = .returned (.bool true) ∧ Below w.heap.size w w' := by
  obtain ⟨d', hd'⟩ : ∃ d', d' = (reverseRange d x y) := ⟨_, rfl⟩
  rw [← hd'] at hH
  have hp : PermIn (x) (y) d d' := by rw [hd']; exact perm_reverseRange (ltC (cfO o)) d x y (by omega) (by omega)
  have hn' : d'.size = n := hp.1.trans hn
  have hget : ∀ i, i < y - x → d'[x + i]! = d[y - 1 - i]! := fun i hi => by rw [hd']; exact reverseRange_get d x y i (by omega) hi
  have HG : Aside (∀ i, i < y - x → d'[x + i]! = d[y - 1 - i]!) := hget
  clear hget
  clear hd'
  obtain ⟨k, s, m0, m1, m2⟩ := o
  have B0 : Aside (Below w.heap.size w (w.alloc (.cells #[.int .i64 k, .int .i64 s, .int .u64 m0, .int .u64 m1, .int .u64 m2] 26))) := below_alloc _ _
  have K0 : Aside (BoxK (w.alloc (.cells #[.int .i64 k, .int .i64 s, .int .u64 m0, .int .u64 m1, .int .u64 m2] 26)) w.heap.size k s m0 m1 m2) := boxK_new _ _ _ _ _ _ _
  have R' : Rd2 w (some ⟨b, 0, none⟩) d' := fun _ => ⟨b, 0, rfl, hb, fun i hi => ⟨(hH i hi).1, (hH i hi).2.1⟩⟩
  have hNum : ∀ W, Below w.heap.size w W → Calls Tryz.prog 26 #[.int .i64 12, .int .i64 n, .slice na 2 ncap] W fun e w' => e = .returned (.tuple #[.int .i64 ((x : Int)), .int .i64 ((y : Int)), .bool true]) ∧ Below W.heap.size W w' := fun W hW => by
    have := numbers_12 (n : Int) na ncap x y W (hN.keep hW) ⟨by omega, by omega⟩ ⟨by omega, by omega⟩
    rwa [show (decide ((0 : Int) ≤ (x : Int)) && decide ((x : Int) ≤ (y : Int)) && decide ((y : Int) ≤ (n : Int))) = true by simp only [Bool.and_eq_true, decide_eq_true_eq]; omega] at this
  have hKept := fun W (hW : Below w.heap.size w W) => kept_calls a cap cap' n (x) (y) b d d' W (h.keep hW) (R'.keep hW) hn hc' hsz hr (by omega) (by omega) hp
  push_cast at hKept
  go_enter Tryz.func35, Tryz.ntmps35
  go_wp2_with fail
  refine (hNum _ B0.out).mono ?_
  rintro e w1 ⟨rfl, hb1⟩
  have B1 : Aside (Below w.heap.size w w1) := Below.next B0.out hb1
  have K1 : Aside (BoxK w1 w.heap.size k s m0 m1 m2) := K0.out.keep hb1
  clear hb1 B0 K0
  go_wp2_with fail
  refine (hKept _ B1.out).mono ?_
  rintro e w2 ⟨rfl, hb1⟩
  have B2 : Aside (Below w.heap.size w w2) := Below.next B1.out hb1
  have K2 : Aside (BoxK w2 w.heap.size k s m0 m1 m2) := K1.out.keep hb1
  clear hb1 B1 K1 hKept hNum
  obtain ⟨nb, noff, rfl, hnb, hnc⟩ := hN (by simp)
  have n0 := (B2.out.cell (p := ⟨nb, noff + 0, none⟩) hnb).trans (hnc 0 (by simp))
  have n1 := (B2.out.cell (p := ⟨nb, noff + 1, none⟩) hnb).trans (hnc 1 (by simp))
  simp at n0 n1
  have RA : Aside (Rd2 w2 a d) := h.rd.keep B2.out
  have RB : Aside (Rd2 w2 (some ⟨b, 0, none⟩) d') := R'.keep B2.out
  have HZ : Aside (a = none → d.size = 0 ∧ cap = 0) := h.nil
  have HR : Aside (RdN w2 ra #[]) := hR.keep B2.out
  have HC : Aside (d.size = n ∧ d'.size = n ∧ d.size ≤ cap ∧ n ≤ cap' ∧ inR d ∧ PermIn (x) (y) d d') := ⟨hn, hn', h.le, hc', hr, hp⟩
  clear h hr hH hp R' hN hnc hnb hc' hn hn' hR hb
  have hxy : x ≤ y := h1
  have hyn : y ≤ n := h2
  have m0 := fun q => (World.cell?_drewN w2 q ⟨nb, noff, none⟩).trans n0
  have m1 := fun q => (World.cell?_drewN w2 q ⟨nb, noff + 1, none⟩).trans n1
  have hyx : (y : Int) - (x : Int) = ((y - x : Nat) : Int) := by omega
  obtain ⟨c, hc⟩ : ∃ c, c = y - x := ⟨_, rfl⟩
  rw [← hc] at hyx
  have HCC : Aside (c = y - x) := hc
  clear hc n0 n1 K2
  go_wp2_with fail
  go_loopg [178] c (fun g vi wr => ∃ (i q : Nat), vi = .int .i64 i ∧ i ≤ c ∧ c - i ≤ g ∧ wr = w2.drewN q)
  case atStart => exact ⟨0, 0, rfl, Nat.zero_le _, by omega, rfl⟩
  case round =>
    obtain ⟨i, q, rfl, hin, hg, rfl⟩ := hrel
    by_cases hlt : i < c
    · have hltz : (i : Int) < (c : Int) := by omega
      have hcy : c = y - x := HCC.out
      obtain ⟨hn, hn', hca, hcb, -, -⟩ := HC.out
      obtain ⟨blk, off, rfl, _, hc⟩ := RA.out (by omega)
      obtain ⟨b2, o2, e2, _, hc2⟩ := RB.out (by omega)
      cases e2
      obtain ⟨j, hj⟩ : ∃ j, j = y - 1 - i := ⟨_, rfl⟩
      obtain ⟨⟨p1, p2⟩, hp⟩ : ∃ v : It, v = d[j]! := ⟨_, rfl⟩
      have g1 : d'[x + i]! = (p1, p2) := by rw [HG.out i (by omega), ← hj, hp]
      obtain ⟨c11, c12⟩ := hc2 (x + i) (by omega)
      obtain ⟨c21, c22⟩ := hc j (by omega)
      rw [g1] at c11 c12
      rw [← hp] at c21 c22
      rw [Nat.zero_add] at c11 c12
      dsimp only at c11 c12 c21 c22
      have q11 := fun k => (World.cell?_drewN w2 k ⟨b, (x + i) * 2, none⟩).trans c11
      have q12 := fun k => (World.cell?_drewN w2 k ⟨b, (x + i) * 2 + 1, none⟩).trans c12
      have q21 := fun k => (World.cell?_drewN w2 k ⟨blk, off + j * 2, none⟩).trans c21
      have q22 := fun k => (World.cell?_drewN w2 k ⟨blk, off + j * 2 + 1, none⟩).trans c22
      have w1x : IntKind.i64.wrap ((x : Int) + (i : Int)) = (x : Int) + (i : Int) := by rw [IntKind.wrap_i64]; omega
      have l1 : (x : Int) + (i : Int) < (n : Int) := by omega
      have z1 : (0 : Int) ≤ (x : Int) + (i : Int) := by omega
      have t1 : ((x : Int) + (i : Int)).toNat = x + i := by omega
      have w2y : IntKind.i64.wrap ((y : Int) - 1 - (i : Int)) = (j : Int) := by rw [IntKind.wrap_i64]; omega
      have w2z : (y : Int) - 1 - (i : Int) = (j : Int) := by omega
      have w3y : IntKind.i64.wrap ((y : Int) - 1) = (y : Int) - 1 := by rw [IntKind.wrap_i64]; omega
      have l2 : (j : Int) < (n : Int) := by omega
      clear c11 c12 c21 c22 hc hc2 g1 hp hn hn' hca hcb hcy hj
      go_wp2_with fail
      go_quiet (fail)
      go_wp2_with fail
      go_roundg (c - (i + 1))
      case measure => omega
      case rel => exact ⟨i + 1, q + nq, by go_num, by omega, by omega, by simp [World.drewN]⟩
    · have hltz : ¬ (i : Int) < (c : Int) := by omega
      have BV : Aside (Below w.heap.size w (w2.drewN q)) := below_drewN B2.out q
      go_wp2_with fail
      go_ret
      exact ⟨rfl, BV.out⟩
end Go.Proofs.YtglgmkikegbchaaGreat
