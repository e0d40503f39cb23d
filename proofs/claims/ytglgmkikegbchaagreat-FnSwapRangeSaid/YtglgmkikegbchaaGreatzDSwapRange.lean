/- spec.Done of swapRange. -/
import Derived.Test.YtglgmkikegbchaaGreatzArg
import Derived.Test.YtglgmkikegbchaaGreatzNumD
import Derived.Test.YtglgmkikegbchaaGreatPb
namespace Go.Proofs.YtglgmkikegbchaaGreat
open Go.RowKit Go.Sort Go.Maps

set_option maxHeartbeats 8000000 in
set_option maxRecDepth 1000000 in
theorem done_swapRange (a na ra : Option Addr) (cap n ncap b cap' rcap lo hi : Nat) (d d' : Array It) (o : Ordr) (x y z : Nat) (w : World) (h : Arg w a cap d) (hn : d.size = n) (hsz : n ≤ 2000) (hr : inR d) (hN : RdN w na #[(x : Int), (y : Int), (z : Int)])
    (hb : b < w.heap.size) (hH : Holds2 w b 0 d') (hc' : n ≤ cap') (hlo : (lo = x ∧ hi = y) ∨ (lo = y ∧ hi = x)) (hlh : lo + z ≤ hi) (hhn : hi + z ≤ n) (hp : PermIn lo (hi + z) d d')
    (hget : ∀ t, d'[t]! = if x ≤ t ∧ t < x + z then d[t - x + y]! else if y ≤ t ∧ t < y + z then d[t - y + x]! else d[t]!) :
    Calls Tryz.prog 35 #[.int .i64 13, .slice a n cap, vOrd o, .slice na 3 ncap, .slice (some ⟨b, 0, none⟩) n cap', .slice ra 0 rcap] w fun e w' => e = .returned (.bool true) ∧ Below w.heap.size w w' := by
  obtain ⟨k, s, m0, m1, m2⟩ := o
  have hn' : d'.size = n := hp.1.trans hn
  have hx : x + z ≤ n := by omega
  have hy : y + z ≤ n := by omega
  have emin : min (x : Int) (y : Int) = (lo : Int) := by omega
  have emax : max (x : Int) (y : Int) = (hi : Int) := by omega
  have B0 : Aside (Below w.heap.size w (w.alloc (.cells #[.int .i64 k, .int .i64 s, .int .u64 m0, .int .u64 m1, .int .u64 m2] 26))) := below_alloc _ _
  have R' : Rd2 w (some ⟨b, 0, none⟩) d' := fun _ => ⟨b, 0, rfl, hb, fun i hi => ⟨(hH i hi).1, (hH i hi).2.1⟩⟩
  have hNum := fun W (hW : Below w.heap.size w W) => numbers_13 (n : Int) na ncap x y z W (hN.keep hW) ⟨by omega, by omega⟩ ⟨by omega, by omega⟩ ⟨by omega, by omega⟩
  rw [emin, emax] at hNum
  have e1 : (decide ((lo : Int) + (z : Int) ≤ (hi : Int)) && decide ((hi : Int) + (z : Int) ≤ (n : Int))) = true := by
    rw [decide_eq_true (by omega), decide_eq_true (by omega)]; rfl
  rw [e1] at hNum
  have hKept := fun W (hW : Below w.heap.size w W) => kept_calls a cap cap' n lo (hi + z) b d d' W (h.keep hW) (R'.keep hW) hn hc' hsz hr (by omega) hhn hp
  push_cast at hKept
  clear e1 emin emax
  go_enter Tryz.func35, Tryz.ntmps35
  go_wp2_with fail
  refine (hNum _ B0.out).mono ?_
  rintro e w1 ⟨rfl, hb1⟩
  have B1 : Aside (Below w.heap.size w w1) := Below.next B0.out hb1
  clear hb1 B0
  go_wp2_with fail
  refine (hKept _ B1.out).mono ?_
  rintro e w2 ⟨rfl, hb1⟩
  have B2 : Aside (Below w.heap.size w w2) := Below.next B1.out hb1
  clear hb1 B1 hKept hNum
  obtain ⟨nb, noff, rfl, hnb, hnc⟩ := hN (by simp)
  have n0 := (B2.out.cell (p := ⟨nb, noff + 0, none⟩) hnb).trans (hnc 0 (by simp))
  have n1 := (B2.out.cell (p := ⟨nb, noff + 1, none⟩) hnb).trans (hnc 1 (by simp))
  have n2 := (B2.out.cell (p := ⟨nb, noff + 2, none⟩) hnb).trans (hnc 2 (by simp))
  simp at n0 n1 n2
  have RA : Aside (Rd2 w2 a d) := h.rd.keep B2.out
  have RB : Aside (Rd2 w2 (some ⟨b, 0, none⟩) d') := R'.keep B2.out
  have HZ : Aside (a = none → d.size = 0 ∧ cap = 0) := h.nil
  have HG : Aside (d.size = n ∧ d'.size = n ∧ d.size ≤ cap ∧ n ≤ cap' ∧ ∀ t, d'[t]! = if x ≤ t ∧ t < x + z then d[t - x + y]! else if y ≤ t ∧ t < y + z then d[t - y + x]! else d[t]!) := ⟨hn, hn', h.le, hc', hget⟩
  have m0 := fun q => (World.cell?_drewN w2 q ⟨nb, noff, none⟩).trans n0
  have m1 := fun q => (World.cell?_drewN w2 q ⟨nb, noff + 1, none⟩).trans n1
  have m2 := fun q => (World.cell?_drewN w2 q ⟨nb, noff + 2, none⟩).trans n2
  have hxz : x + z ≤ n := hx
  have hyz : y + z ≤ n := hy
  have HL : Aside ((lo = x ∧ hi = y) ∨ (lo = y ∧ hi = x)) := hlo
  clear h hn hr hH hp hget R' hN hnc hn' hc' hlo hx hy
  go_wp2_with fail
  clear n0 n1 n2
  go_loopg [204] z (fun g vi wr => ∃ (i q : Nat), vi = .int .i64 i ∧ i ≤ z ∧ z - i ≤ g ∧ wr = w2.drewN q)
  case atStart => exact ⟨0, 0, rfl, Nat.zero_le _, by omega, rfl⟩
  case round =>
    obtain ⟨i, q, rfl, hin, hg, rfl⟩ := hrel
    by_cases hlt : i < z
    · have hltz : (i : Int) < (z : Int) := by omega
      obtain ⟨hn, hn', hca, hcb, hget⟩ := HG.out
      obtain ⟨blk, off, rfl, _, hc⟩ := RA.out (by omega)
      obtain ⟨b2, o2, e2, _, hc2⟩ := RB.out (by omega)
      cases e2
      obtain ⟨⟨p1, p2⟩, hp⟩ : ∃ v : It, v = d[y + i]! := ⟨_, rfl⟩
      obtain ⟨⟨r1, r2⟩, hr⟩ : ∃ v : It, v = d[x + i]! := ⟨_, rfl⟩
      have g1 : d'[x + i]! = (p1, p2) := by rw [hget, if_pos (by omega), hp]; congr 1; omega
      have g2 : d'[y + i]! = (r1, r2) := by
        rw [hget, if_neg (by rcases HL.out with ⟨rfl, rfl⟩ | ⟨rfl, rfl⟩ <;> omega), if_pos (by omega), hr]; congr 1; omega
      obtain ⟨c11, c12⟩ := hc2 (x + i) (by omega)
      obtain ⟨c21, c22⟩ := hc (y + i) (by omega)
      obtain ⟨c31, c32⟩ := hc2 (y + i) (by omega)
      obtain ⟨c41, c42⟩ := hc (x + i) (by omega)
      rw [g1] at c11 c12
      rw [← hp] at c21 c22
      rw [g2] at c31 c32
      rw [← hr] at c41 c42
      rw [Nat.zero_add] at c11 c12 c31 c32
      dsimp only at c11 c12 c21 c22 c31 c32 c41 c42
      have q11 := fun k => (World.cell?_drewN w2 k ⟨b, (x + i) * 2, none⟩).trans c11
      have q12 := fun k => (World.cell?_drewN w2 k ⟨b, (x + i) * 2 + 1, none⟩).trans c12
      have q21 := fun k => (World.cell?_drewN w2 k ⟨blk, off + (y + i) * 2, none⟩).trans c21
      have q22 := fun k => (World.cell?_drewN w2 k ⟨blk, off + (y + i) * 2 + 1, none⟩).trans c22
      have q31 := fun k => (World.cell?_drewN w2 k ⟨b, (y + i) * 2, none⟩).trans c31
      have q32 := fun k => (World.cell?_drewN w2 k ⟨b, (y + i) * 2 + 1, none⟩).trans c32
      have q41 := fun k => (World.cell?_drewN w2 k ⟨blk, off + (x + i) * 2, none⟩).trans c41
      have q42 := fun k => (World.cell?_drewN w2 k ⟨blk, off + (x + i) * 2 + 1, none⟩).trans c42
      have w1x : IntKind.i64.wrap ((x : Int) + (i : Int)) = (x : Int) + (i : Int) := by rw [IntKind.wrap_i64]; omega
      have w1y : IntKind.i64.wrap ((y : Int) + (i : Int)) = (y : Int) + (i : Int) := by rw [IntKind.wrap_i64]; omega
      have l1 : (x : Int) + (i : Int) < (n : Int) := by omega
      have l2 : (y : Int) + (i : Int) < (n : Int) := by omega
      have z1 : (0 : Int) ≤ (x : Int) + (i : Int) := by omega
      have z2 : (0 : Int) ≤ (y : Int) + (i : Int) := by omega
      have t1 : ((x : Int) + (i : Int)).toNat = x + i := by omega
      have t2 : ((y : Int) + (i : Int)).toNat = y + i := by omega
      clear c11 c12 c21 c22 c31 c32 c41 c42 hc hc2 g1 g2 hp hr hn hn' hca hcb hget
      go_wp2_with fail
      go_quiet (fail)
      go_wp2_with fail
      go_roundg (z - (i + 1))
      case measure => omega
      case rel => exact ⟨i + 1, q + nq, by go_num, by omega, by omega, by simp [World.drewN]⟩
    · have hltz : ¬ (i : Int) < (z : Int) := by omega
      have e0 : i = z := by omega
      have eo := e0
      have mixed : Tryz.prog.follows .mixedOrders = true := by kernel_rfl
      obtain ⟨V, hV⟩ : ∃ V, V = w2.drewN q := ⟨_, rfl⟩
      have BV : Aside (Below w.heap.size w V) := by show Below _ _ _; rw [hV]; exact below_drewN B2.out q
      have v2 := fun (d : Nat) (os : Array Obj) => cell_regrown (show V.cell? ⟨nb, noff + 2, none⟩ = some (.int .i64 z) by rw [hV]; exact m2 q) d os
      have RV : Aside (Rd2 V a d ∧ Rd2 V (some ⟨b, 0, none⟩) d') := by
        show _ ∧ _
        rw [hV]
        exact ⟨RA.out.keep (below_drewN (Below.refl _ _) q), RB.out.keep (below_drewN (Below.refl _ _) q)⟩
      rw [← hV]
      clear hV m0 m1 m2 RA RB B2 e0 eo
      have s1 : IntKind.i64.wrap ((lo : Int) + (z : Int)) = (lo : Int) + (z : Int) := by rw [IntKind.wrap_i64]; omega
      have s2 : IntKind.i64.wrap (hi : Int) = (hi : Int) := by rw [IntKind.wrap_i64]; omega
      have s7 : (0 : Int) ≤ (hi : Int) := by omega
      have s3 : (0 : Int) ≤ (lo : Int) + (z : Int) := by omega
      have s4 : (lo : Int) + (z : Int) ≤ (hi : Int) := by omega
      have s6 : ((lo : Int) + (z : Int)).toNat = lo + z := by omega
      by_cases h0 : n = 0
      · obtain rfl : lo = 0 := by omega
        obtain rfl : hi = 0 := by omega
        obtain rfl : z = 0 := by omega
        subst h0
        clear s1 s2 s3 s4 s6 s7 RV HG
        have s0 : IntKind.i64.wrap 0 = 0 := by decide
        cases a with
        | none =>
          obtain ⟨_, rfl⟩ := HZ.out rfl
          go_wp2_with fail
          refine wp_region_quiet_below (by assumption) (by kernel_rfl) ?_
          repeat' (quiet_step (with_reducible exact same_nil _ _ _ _ V _))
          all_goals
            refine wpQuiet_nil ?_
            intro _ hw'
            obtain ⟨⟨nq, osq⟩, hw''⟩ := hw'
            subst hw''
            go_wp2_with fail
          all_goals
            go_ret
            exact ⟨rfl, Below.next BV.out (below_regrown _ _ _)⟩
        | some ad =>
          go_wp2_with fail
          refine wp_region_quiet_below (by assumption) (by kernel_rfl) ?_
          repeat' (quiet_step (with_reducible exact same_nil _ _ _ _ V _))
          all_goals
            refine wpQuiet_nil ?_
            intro _ hw'
            obtain ⟨⟨nq, osq⟩, hw''⟩ := hw'
            subst hw''
            go_wp2_with fail
          all_goals
            go_ret
            exact ⟨rfl, Below.next BV.out (below_regrown _ _ _)⟩
      · obtain ⟨hn, hn', hca, hcb, hget⟩ := HG.out
        obtain ⟨blk, off, rfl, _, _⟩ := RV.out.1 (by omega)
        have s5 : (hi : Int) ≤ (cap : Int) := by omega
        have s5' : (hi : Int) ≤ (cap' : Int) := by omega
        have C1 : ∀ p : Regrown, Calls Tryz.prog 30 #[.slice (if cap = lo + z then some ⟨blk, off, none⟩ else some ⟨blk, off + (lo + z) * 2, none⟩) (hi - (lo + z)) (cap - (lo + z)), .slice (if cap' = lo + z then some ⟨b, 0, none⟩ else some ⟨b, (lo + z) * 2, none⟩) (hi - (lo + z)) (cap' - (lo + z))] (grow (redrawn V p.d) p.os) fun e w'' => e = .returned (.bool true) ∧ ∃ p : Regrown, w'' = grow (redrawn V p.d) p.os := fun p => by
          have e := same_calls (if cap = lo + z then some ⟨blk, off, none⟩ else some ⟨blk, off + (lo + z) * 2, none⟩) (if cap' = lo + z then some ⟨b, 0, none⟩ else some ⟨b, 0 + (lo + z) * 2, none⟩) (cap - (lo + z)) (cap' - (lo + z)) (d.extract (lo + z) hi) (d'.extract (lo + z) hi) (grow (redrawn V p.d) p.os) ((RV.out.1.partIf (lo + z) hi cap (by omega) (by omega)).keep (below_regrown _ _ _)) ((RV.out.2.partIf (lo + z) hi cap' (by omega) (by omega)).keep (below_regrown _ _ _)) (by simp; omega)
          have eq : d.extract (lo + z) hi = d'.extract (lo + z) hi := part_eq d d' (lo + z) hi (by omega) (by omega) (fun t h1 h2 => by
            rw [hget, if_neg (by rcases HL.out with ⟨rfl, rfl⟩ | ⟨rfl, rfl⟩ <;> omega), if_neg (by rcases HL.out with ⟨rfl, rfl⟩ | ⟨rfl, rfl⟩ <;> omega)])
          rw [show (d.extract (lo + z) hi).size = hi - (lo + z) by simp; omega, show (d'.extract (lo + z) hi).size = hi - (lo + z) by simp; omega, decide_eq_true eq, Nat.zero_add] at e
          exact Calls.regrown_of (e.mono fun e w' ⟨h1, q, h2⟩ => ⟨h1, by rw [h2]; exact below_drewN (Below.refl _ _) q⟩)
        clear hn hn' hca hcb hget RV
        go_wp2_with fail
        refine wp_region_quiet_below (by assumption) (by kernel_rfl) ?_
        repeat' (quiet_step (with_reducible exact C1 _))
        all_goals
          refine wpQuiet_nil ?_
          intro _ hw'
          obtain ⟨⟨nq, osq⟩, hw''⟩ := hw'
          subst hw''
          go_wp2_with fail
        all_goals
          go_ret
          exact ⟨rfl, Below.next BV.out (below_regrown _ _ _)⟩
end Go.Proofs.YtglgmkikegbchaaGreat
