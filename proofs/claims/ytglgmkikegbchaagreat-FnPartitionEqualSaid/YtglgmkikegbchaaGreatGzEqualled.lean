/- spec.equalled. -/
import Derived.Test.YtglgmkikegbchaaGreatGzRdy2
import Derived.BigQuiet
namespace Go.Proofs.YtglgmkikegbchaaGreat
open Go.RowKit Go.Sort

set_option maxHeartbeats 4000000 in
set_option maxRecDepth 1000000 in
theorem equalled_calls (blk off b : Nat) (na : Option Addr) (cap cap' n ncap : Nat) (d d' : Array It) (o : Ordr) (x y z p : Nat) (w : World) (h : Rd2 w (some ⟨blk, off, none⟩) d) (h' : Rd2 w (some ⟨b, 0, none⟩) d') (hn : d.size = n) (hn' : d'.size = n) (hsz : n ≤ 2000) (hs0 : 0 ≤ o.shift) (hs1 : o.shift < 64) (hN : RdN w na #[(x : Int), (y : Int), (z : Int)])
    (h1 : x ≤ y) (h2 : y ≤ n) (_h3 : x ≤ z) (h4 : z < y) (h5 : x ≤ p) (h6 : p ≤ y) (HE : ∀ i, x ≤ i → i < y → ltC (cfO o) d[z]! d'[i]! = !decide (i < p)) :
    Calls Tryz.prog 54 #[.slice (some ⟨blk, off, none⟩) n cap, .slice (some ⟨b, 0, none⟩) n cap', vOrd o, .slice na 3 ncap, .int .i64 p] w fun e w' => e = .returned (.bool true) ∧ Below w.heap.size w w' := by
  have LC := fun x y W => sless_calls o hs0 hs1 x y W
  obtain ⟨_, _, eb, hbl, hc⟩ := h (by omega)
  cases eb
  obtain ⟨_, _, eb, hbl', hc'⟩ := h' (by omega)
  cases eb
  obtain ⟨nb, noff, rfl, hnb, hnc⟩ := hN (by simp)
  have HQ : Aside (∀ i, x ≤ i → i < y → ltC (cfO o) d[z]! d'[i]! = !decide (i < p)) := HE
  clear HE
  generalize ltC (cfO o) = lt at LC HQ
  have HC' : Aside (∀ i, i < d'.size → w.cell? ⟨b, 0 + i * 2, none⟩ = some (.int .i64 d'[i]!.1) ∧ w.cell? ⟨b, 0 + i * 2 + 1, none⟩ = some (.int .i64 d'[i]!.2)) := hc'
  have HD : Aside (d'.size = n) := hn'
  have m0z : w.cell? ⟨nb, noff, none⟩ = some (.int .i64 (x : Int)) := hnc 0 (by simp)
  have m1z : w.cell? ⟨nb, noff + 1, none⟩ = some (.int .i64 (y : Int)) := hnc 1 (by simp)
  have m2z : w.cell? ⟨nb, noff + 2, none⟩ = some (.int .i64 (z : Int)) := hnc 2 (by simp)
  obtain ⟨⟨x1, x2⟩, hx⟩ : ∃ v : It, v = d[z]! := ⟨_, rfl⟩
  have e1 := hc z (by omega)
  rw [← hx] at e1 HQ
  clear h h' hN hs0 hs1 hc hnc hn hc' hn' hx
  obtain ⟨k, s, m0, m1, m2⟩ := o
  have BU : Below w.heap.size w (w.alloc (.cells #[.int .i64 k, .int .i64 s, .int .u64 m0, .int .u64 m1, .int .u64 m2] 26)) := below_alloc _ _
  have K1 : Aside (BoxK (w.alloc (.cells #[.int .i64 k, .int .i64 s, .int .u64 m0, .int .u64 m1, .int .u64 m2] 26)) w.heap.size k s m0 m1 m2) := boxK_new _ _ _ _ _ _ _
  have n0 := (BU.cell (p := ⟨nb, noff, none⟩) hnb).trans m0z
  have n1 := (BU.cell (p := ⟨nb, noff + 1, none⟩) hnb).trans m1z
  have B1 : Aside (Below w.heap.size w (w.alloc (.cells #[.int .i64 k, .int .i64 s, .int .u64 m0, .int .u64 m1, .int .u64 m2] 26))) := BU
  have oX : ¬ (p : Int) < (x : Int) := by omega
  have oY : ¬ (p : Int) > (y : Int) := by omega
  have oX' : ¬ p < x := by omega
  have oY' : ¬ y < p := by omega
  clear BU
  go_enter Tryz.func54, Tryz.ntmps54
  go_wp2_with fail
  clear n0 n1 oX oY oX' oY'
  go_loopg [11] (y - x) (fun g vi wr => ∃ i : Nat, vi = .int .i64 i ∧ x ≤ i ∧ i ≤ y ∧ y - i ≤ g ∧ Aside (Below w.heap.size w wr) ∧ Aside (BoxK wr w.heap.size k s m0 m1 m2))
  case atStart => exact ⟨x, rfl, Nat.le_refl _, h1, Nat.le_refl _, B1, K1⟩
  case round =>
    clear B1 K1
    obtain ⟨i, rfl, hxi, hiy, hg, Bk, Kk⟩ := hrel
    have n1 := (Bk.out.cell (p := ⟨nb, noff + 1, none⟩) hnb).trans m1z
    by_cases hlt : i < y
    · have hltz : (i : Int) < (y : Int) := by omega
      obtain ⟨⟨y1, y2⟩, hy⟩ : ∃ v : It, v = d'[i]! := ⟨_, rfl⟩
      have e2 := HC'.out i (by rw [HD.out]; omega)
      rw [← hy, Nat.zero_add] at e2
      obtain ⟨c, hcc⟩ : ∃ c, c = lt (x1, x2) (y1, y2) := ⟨_, rfl⟩
      have hcv : c = !decide (i < p) := by rw [hcc, hy]; exact HQ.out i hxi hlt
      have hl0 : ∀ W, Calls Tryz.prog 47 #[.agg #[.int .i64 k, .int .i64 s, .int .u64 m0, .int .u64 m1, .int .u64 m2], .agg #[.int .i64 x1, .int .i64 x2], .agg #[.int .i64 y1, .int .i64 y2]] W fun e w' => e = .returned (.bool c) ∧ Below W.heap.size W w' := fun W => by rw [hcc]; exact LC (x1, x2) (y1, y2) W
      have q1 := cell_regrown ((Bk.out.cell (p := ⟨blk, off + z * 2, none⟩) hbl).trans e1.1)
      have q2 := cell_regrown ((Bk.out.cell (p := ⟨blk, off + z * 2 + 1, none⟩) hbl).trans e1.2)
      have q3 := cell_regrown ((Bk.out.cell (p := ⟨b, i * 2, none⟩) hbl').trans e2.1)
      have q4 := cell_regrown ((Bk.out.cell (p := ⟨b, i * 2 + 1, none⟩) hbl').trans e2.2)
      have q5 := cell_regrown ((Bk.out.cell (p := ⟨nb, noff + 2, none⟩) hnb).trans m2z)
      dsimp only at q1 q2 q3 q4
      obtain ⟨_, k0, k1, k2, k3, k4⟩ := Kk.out
      have p0 := cell_regrown k0
      have p1 := cell_regrown k1
      have p2 := cell_regrown k2
      have p3 := cell_regrown k3
      have p4 := cell_regrown k4
      have hl : ∀ p : Regrown, Calls Tryz.prog 47 #[.agg #[.int .i64 k, .int .i64 s, .int .u64 m0, .int .u64 m1, .int .u64 m2], .agg #[.int .i64 x1, .int .i64 x2], .agg #[.int .i64 y1, .int .i64 y2]] (grow (redrawn wr p.d) p.os) fun e w'' => e = .returned (.bool c) ∧ ∃ p : Regrown, w'' = grow (redrawn wr p.d) p.os := fun p => Calls.regrown_of (hl0 _)
      have mixed : Tryz.prog.follows .mixedOrders = true := by kernel_rfl
      have wZ : IntKind.i64.wrap (z : Int) = (z : Int) := by rw [IntKind.wrap_i64]; omega
      have bZ : (z : Int) < (n : Int) := by omega
      have wI : IntKind.i64.wrap (i : Int) = (i : Int) := by rw [IntKind.wrap_i64]; omega
      have bI : (i : Int) < (n : Int) := by omega
      clear k0 k1 k2 k3 k4 hy hcc e2 hl0
      have LC' : Aside _ := LC
      have E1 : Aside _ := e1
      clear LC e1
      by_cases hip : i < p
      · have hd1 : (i : Int) < (p : Int) := by omega
        obtain rfl : c = false := by rw [hcv, decide_eq_true hip]; rfl
        clear hcv
        go_upto_region 6 with fail
        refine wp_region_quiet_below (by assumption) (by kernel_rfl) ?_
        repeat' (quiet_step (with_reducible exact hl _))
        all_goals
          refine wpQuiet_nil ?_
          intro _ hw'
          obtain ⟨⟨nq, osq⟩, hw''⟩ := hw'
          subst hw''
        have B2 : Aside _ := Below.next Bk.out (below_regrown wr nq osq)
        have K2 : Aside _ := Kk.out.keep (below_regrown wr nq osq)
        clear hl q1 q2 q3 q4 q5 p0 p1 p2 p3 p4 n1
        go_wp2_with fail
        go_roundg (y - (i + 1))
        case measure => omega
        case rel => exact ⟨i + 1, by go_num, by omega, by omega, Nat.le_refl _, B2, K2⟩
      · have hd1 : decide ((i : Int) < (p : Int)) = false := decide_eq_false (by omega)
        have hd2 : decide (i < p) = false := decide_eq_false hip
        obtain rfl : c = true := by rw [hcv, hd2]; rfl
        clear hcv
        go_upto_region 6 with fail
        refine wp_region_quiet_below (by assumption) (by kernel_rfl) ?_
        repeat' (quiet_step (with_reducible exact hl _))
        all_goals
          refine wpQuiet_nil ?_
          intro _ hw'
          obtain ⟨⟨nq, osq⟩, hw''⟩ := hw'
          subst hw''
        have B2 : Aside _ := Below.next Bk.out (below_regrown wr nq osq)
        have K2 : Aside _ := Kk.out.keep (below_regrown wr nq osq)
        clear hl q1 q2 q3 q4 q5 p0 p1 p2 p3 p4 n1
        go_wp2_with fail
        go_roundg (y - (i + 1))
        case measure => omega
        case rel => exact ⟨i + 1, by go_num, by omega, by omega, Nat.le_refl _, B2, K2⟩
    · have hltz : ¬ (i : Int) < (y : Int) := by omega
      go_wp2_with fail
      go_ret
      exact ⟨rfl, Bk.out⟩
end Go.Proofs.YtglgmkikegbchaaGreat
