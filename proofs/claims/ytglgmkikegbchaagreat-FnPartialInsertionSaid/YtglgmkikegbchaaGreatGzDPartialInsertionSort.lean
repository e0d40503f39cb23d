/- spec.Done of partialInsertionSort (its frame printed by gen/done.py). -/
import Derived.Test.YtglgmkikegbchaaGreatGzRdyB
import Derived.Test.YtglgmkikegbchaaGreatGBS
import Derived.Test.YtglgmkikegbchaaGreatGzNumC
import Derived.Test.YtglgmkikegbchaaGreatGSOrd
import Derived.Test.YtglgmkikegbchaaGreatGMu
import Derived.Test.YtglgmkikegbchaaGreatPi
namespace Go.Proofs.YtglgmkikegbchaaGreat
open Go.RowKit Go.Sort Go.Maps



set_option maxHeartbeats 8000000 in
set_option maxRecDepth 1000000 in
theorem done_partialInsertionSort (a na ra : Option Addr) (cap n ncap b cap' rcap : Nat) (d : Array It) (o : Ordr) (x y : Nat) (w : World) (h : Arg w a cap d) (hn : d.size = n) (hsz : n ≤ 2000) (hs0 : 0 ≤ o.shift) (hs1 : o.shift < 64) (hk3 : o.kind ≠ 3) (hr : inR d) (hN : RdN w na #[(x : Int), (y : Int)])
    (hb : b < w.heap.size) (hH : Holds2 w b 0 ((partialInsertionSort (ltC (cfO o)) d x y).1)) (hc' : n ≤ cap') (hR : RdN w ra #[flagN (partialInsertionSort (ltC (cfO o)) d x y).2]) (h1 : x < y) (h2 : y ≤ n) (er : frontB (ltC (cfO o)) d x y = true) :
    Calls Tryz.prog 35 #[.int .i64 6, .slice a n cap, vOrd o, .slice na 2 ncap, .slice (some ⟨b, 0, none⟩) n cap', .slice ra 1 rcap] w fun e w' => e = .returned (.bool true) ∧ Below w.heap.size w w' := by
  obtain ⟨d', hd'⟩ : ∃ d', d' = ((partialInsertionSort (ltC (cfO o)) d x y).1) := ⟨_, rfl⟩
  rw [← hd'] at hH
  have hp : PermIn (x) (y) d d' := by rw [hd']; exact (partialInsertionSort_holds (by rw [ltC_by o hk3]; exact swo_ltBy _) d x y h1 (by omega) (below_front er)).1
  have hn' : d'.size = n := hp.1.trans hn
  have hpi := partialInsertionSort_holds (lt := ltC (cfO o)) (by rw [ltC_by o hk3]; exact swo_ltBy _) d x y h1 (by omega) (below_front er)
  rw [← hd'] at hpi
  have HPI : Aside (∃ F, F = (partialInsertionSort (ltC (cfO o)) d x y).2 ∧ (F = true → ascB (ltC (cfO o)) (d'.extract x y) = true) ∧ (ascB (ltC (cfO o)) (d.extract x y) = true → F = true ∧ d' = d)) := ⟨_, rfl, fun e => by
    have h5 := hpi.2 e
    rw [ltC_by o hk3] at h5 ⊢
    exact asc_sorted (by omega) h5, fun e => by
    have h5 := ascB_true.1 e
    have h6 := partial_sorted (ltC (cfO o)) d x y h1 fun i a b => by
      have := h5 (i - x - 1) (by rw [Array.size_extract]; omega)
      rw [ext_get d x y _ (by omega) (by omega), ext_get d x y _ (by omega) (by omega), show x + (i - x - 1 + 1) = i by omega, show x + (i - x - 1) = i - 1 by omega] at this
      exact this
    rw [hd', h6]
    exact ⟨rfl, rfl⟩⟩
  clear hpi er
  clear hd'
  obtain ⟨k, s, m0, m1, m2⟩ := o
  have B0 : Aside (Below w.heap.size w (w.alloc (.cells #[.int .i64 k, .int .i64 s, .int .u64 m0, .int .u64 m1, .int .u64 m2] 26))) := below_alloc _ _
  have K0 : Aside (BoxK (w.alloc (.cells #[.int .i64 k, .int .i64 s, .int .u64 m0, .int .u64 m1, .int .u64 m2] 26)) w.heap.size k s m0 m1 m2) := boxK_new _ _ _ _ _ _ _
  have R' : Rd2 w (some ⟨b, 0, none⟩) d' := fun _ => ⟨b, 0, rfl, hb, fun i hi => ⟨(hH i hi).1, (hH i hi).2.1⟩⟩
  have hNum : ∀ W, Below w.heap.size w W → Calls Tryz.prog 26 #[.int .i64 6, .int .i64 n, .slice na 2 ncap] W fun e w' => e = .returned (.tuple #[.int .i64 ((x : Int)), .int .i64 ((y : Int)), .bool true]) ∧ Below W.heap.size W w' := fun W hW => by
    have := numbers_6 (n : Int) na ncap x y W (hN.keep hW) ⟨by omega, by omega⟩ ⟨by omega, by omega⟩
    rwa [show ((decide ((0 : Int) ≤ (x : Int)) && decide ((x : Int) ≤ (y : Int)) && decide ((y : Int) ≤ (n : Int))) && decide ((x : Int) < (y : Int))) = true by simp only [Bool.and_eq_true, decide_eq_true_eq]; omega] at this
  have hKept := fun W (hW : Below w.heap.size w W) => kept_calls a cap cap' n (x) (y) b d d' W (h.keep hW) (R'.keep hW) hn hc' hsz hr (by omega) (by omega) hp
  push_cast at hKept
  go_enter Tryz.func35, Tryz.ntmps35
  go_wp2_with fail
  refine (hNum _ B0.out).mono ?_
  rintro e w1 ⟨rfl, hb1⟩
  have B1 : Aside (Below w.heap.size w w1) := Below.next B0.out hb1
  have K1 : Aside (BoxK w1 w.heap.size k s m0 m1 m2) := K0.out.keep hb1
  clear hb1 B0 K0
  go_wp2_with fail
  refine (hKept _ B1.out).mono ?_
  rintro e w2 ⟨rfl, hb1⟩
  have B2 : Aside (Below w.heap.size w w2) := Below.next B1.out hb1
  have K2 : Aside (BoxK w2 w.heap.size k s m0 m1 m2) := K1.out.keep hb1
  clear hb1 B1 K1 hKept hNum
  obtain ⟨nb, noff, rfl, hnb, hnc⟩ := hN (by simp)
  have n0 := (B2.out.cell (p := ⟨nb, noff + 0, none⟩) hnb).trans (hnc 0 (by simp))
  have n1 := (B2.out.cell (p := ⟨nb, noff + 1, none⟩) hnb).trans (hnc 1 (by simp))
  simp at n0 n1
  have RA : Aside (Rd2 w2 a d) := h.rd.keep B2.out
  have RB : Aside (Rd2 w2 (some ⟨b, 0, none⟩) d') := R'.keep B2.out
  have HZ : Aside (a = none → d.size = 0 ∧ cap = 0) := h.nil
  have HR : Aside (RdN w2 ra #[flagN (partialInsertionSort (ltC (cfO (⟨k, s, m0, m1, m2⟩ : Ordr))) d x y).2]) := hR.keep B2.out
  have HC : Aside (d.size = n ∧ d'.size = n ∧ d.size ≤ cap ∧ n ≤ cap' ∧ inR d ∧ PermIn (x) (y) d d') := ⟨hn, hn', h.le, hc', hr, hp⟩
  clear h hr hH hp R' hN hnc hnb hc' hn hn' hR hb
  have HO : Aside (0 ≤ s ∧ s < 64) := ⟨hs0, hs1⟩
  obtain ⟨F, hF, g1, g2⟩ := HPI.out
  have hr := HR.out
  rw [← hF] at hr
  obtain ⟨rb, roff, rfl, hrb, hrc⟩ := hr (by simp)
  have r0 : w2.cell? ⟨rb, roff, none⟩ = some (.int .i64 (flagN F)) := hrc 0 (by simp)
  obtain ⟨hn, hn', hca, hcb, -, -⟩ := HC.out
  obtain ⟨blk, off, rfl, _, _⟩ := RA.out (by omega)
  obtain ⟨_, k0, k1, k2, k3, k4⟩ := K2.out
  have p0 := cell_regrown k0
  have p1 := cell_regrown k1
  have p2 := cell_regrown k2
  have p3 := cell_regrown k3
  have p4 := cell_regrown k4
  obtain ⟨R2, hR2⟩ : ∃ R2, R2 = ascB (ltC (cfO (⟨k, s, m0, m1, m2⟩ : Ordr))) (d.extract x y) := ⟨_, rfl⟩
  have C2 : ∀ p : Regrown, Calls Tryz.prog 49 #[.slice (some ⟨blk, off + x * 2, none⟩) (y - x) (cap - x), .agg #[.int .i64 k, .int .i64 s, .int .u64 m0, .int .u64 m1, .int .u64 m2]] (grow (redrawn w2 p.d) p.os) fun e w'' => e = .returned (.bool R2) ∧ ∃ p : Regrown, w'' = grow (redrawn w2 p.d) p.os := fun p => by
    rw [hR2]
    exact Calls.regrown_of (asc_calls _ (cap - x) (y - x) (d.extract x y) ⟨k, s, m0, m1, m2⟩ _ ((Rd2.part x y (by omega) RA.out).keep (below_regrown _ _ _)) (by rw [Array.size_extract]; omega) (by omega) HO.out.1 HO.out.2)
  have C1 : F = true → ∀ p : Regrown, Calls Tryz.prog 49 #[.slice (some ⟨b, x * 2, none⟩) (y - x) (cap' - x), .agg #[.int .i64 k, .int .i64 s, .int .u64 m0, .int .u64 m1, .int .u64 m2]] (grow (redrawn w2 p.d) p.os) fun e w'' => e = .returned (.bool true) ∧ ∃ p : Regrown, w'' = grow (redrawn w2 p.d) p.os := fun e p => by
    have h := asc_calls (some ⟨b, 0 + x * 2, none⟩) (cap' - x) (y - x) (d'.extract x y) ⟨k, s, m0, m1, m2⟩ (grow (redrawn w2 p.d) p.os) ((Rd2.part x y (by omega) RB.out).keep (below_regrown _ _ _)) (by rw [Array.size_extract]; omega) (by omega) HO.out.1 HO.out.2
    rw [g1 e, Nat.zero_add] at h
    exact Calls.regrown_of h
  have C3 : R2 = true → ∀ p : Regrown, Calls Tryz.prog 30 #[.slice (some ⟨blk, off, none⟩) n cap, .slice (some ⟨b, 0, none⟩) n cap'] (grow (redrawn w2 p.d) p.os) fun e w'' => e = .returned (.bool true) ∧ ∃ p : Regrown, w'' = grow (redrawn w2 p.d) p.os := fun e p => by
    have ed := (g2 (hR2.symm.trans e)).2
    have h := same_calls (some ⟨blk, off, none⟩) (some ⟨b, 0, none⟩) cap cap' d d' (grow (redrawn w2 p.d) p.os) (RA.out.keep (below_regrown _ _ _)) (RB.out.keep (below_regrown _ _ _)) (by omega)
    rw [hn, hn', decide_eq_true ed.symm] at h
    exact Calls.regrown_of (h.mono fun e w' ⟨h1, q, h2⟩ => ⟨h1, by rw [h2]; exact below_drewN (Below.refl _ _) q⟩)
  have hRF : F = false → R2 = false := fun e => by
    cases hh : R2 with
    | false => rfl
    | true => have := (g2 (hR2.symm.trans hh)).1; rw [e] at this; cases this
  have mixed : Tryz.prog.follows .mixedOrders = true := by kernel_rfl
  have wA : IntKind.i64.wrap (x : Int) = (x : Int) := by rw [IntKind.wrap_i64]; omega
  have wB : IntKind.i64.wrap (y : Int) = (y : Int) := by rw [IntKind.wrap_i64]; omega
  have oA : (x : Int) ≤ (y : Int) := by omega
  have oB : (y : Int) ≤ (cap' : Int) := by omega
  have oC : (y : Int) ≤ (cap : Int) := by omega
  have hcx : ¬ cap = x := by omega
  have hcx' : ¬ cap' = x := by omega
  clear n0 n1 RA RB HC HR HPI HZ hn hn' K2 HO k0 k1 k2 k3 k4 hF hrc g1 g2 hR2
  cases F with
  | true =>
    replace C1 := C1 rfl
    clear hRF
    cases R2 with
    | true =>
      replace C3 := C3 rfl
      have r0' : w2.cell? ⟨rb, roff, none⟩ = some (.int .i64 1) := r0
      have q0 := cell_regrown r0'
      clear r0
      go_wp2_with fail
      clear r0'
      refine wp_region_quiet_below (by assumption) (by kernel_rfl) ?_
      generalize hA : ({ tmps := _, defers := _ } : Act) = A
      repeat
        refine wpQuiet_step (fun K hK => ?_)
        subst hA
        go_simp
        first
          | (generalize hA : ({ tmps := _, defers := _ } : Act) = A
             refine hK _ ?_
             clear hK K)
          | (apply Exists.intro
             refine ⟨fun _ => ?_, ?_⟩
             · first | (with_reducible exact C1 _) | (with_reducible exact C2 _) | (with_reducible exact C3 _)
             generalize hA : ({ tmps := _, defers := _ } : Act) = A
             refine hK _ ?_
             clear hK K)
      refine wpQuiet_nil ?_
      subst hA
      intro _ hw'
      obtain ⟨⟨nq, osq⟩, hw''⟩ := hw'
      subst hw''
      clear C1 C2 C3 p0 p1 p2 p3 p4 q0 wA wB oA oB oC hcx hcx'
      go_wp2_with fail
      go_ret
      exact ⟨rfl, Below.next B2.out (below_regrown _ _ _)⟩
    | false =>
      clear C3
      have r0' : w2.cell? ⟨rb, roff, none⟩ = some (.int .i64 1) := r0
      have q0 := cell_regrown r0'
      clear r0
      go_wp2_with fail
      clear r0'
      refine wp_region_quiet_below (by assumption) (by kernel_rfl) ?_
      generalize hA : ({ tmps := _, defers := _ } : Act) = A
      repeat
        refine wpQuiet_step (fun K hK => ?_)
        subst hA
        go_simp
        first
          | (generalize hA : ({ tmps := _, defers := _ } : Act) = A
             refine hK _ ?_
             clear hK K)
          | (apply Exists.intro
             refine ⟨fun _ => ?_, ?_⟩
             · first | (with_reducible exact C1 _) | (with_reducible exact C2 _)
             generalize hA : ({ tmps := _, defers := _ } : Act) = A
             refine hK _ ?_
             clear hK K)
      refine wpQuiet_nil ?_
      subst hA
      intro _ hw'
      obtain ⟨⟨nq, osq⟩, hw''⟩ := hw'
      subst hw''
      clear C1 C2 p0 p1 p2 p3 p4 q0 wA wB oA oB oC hcx hcx'
      go_wp2_with fail
      go_ret
      exact ⟨rfl, Below.next B2.out (below_regrown _ _ _)⟩
  | false =>
    obtain rfl := hRF rfl
    clear hRF C1 C3
    have r0' : w2.cell? ⟨rb, roff, none⟩ = some (.int .i64 0) := r0
    have q0 := cell_regrown r0'
    clear r0
    go_wp2_with fail
    clear r0'
    refine wp_region_quiet_below (by assumption) (by kernel_rfl) ?_
    generalize hA : ({ tmps := _, defers := _ } : Act) = A
    repeat
      refine wpQuiet_step (fun K hK => ?_)
      subst hA
      go_simp
      first
        | (generalize hA : ({ tmps := _, defers := _ } : Act) = A
           refine hK _ ?_
           clear hK K)
        | (apply Exists.intro
           refine ⟨fun _ => ?_, ?_⟩
           · first | (with_reducible exact C2 _)
           generalize hA : ({ tmps := _, defers := _ } : Act) = A
           refine hK _ ?_
           clear hK K)
    refine wpQuiet_nil ?_
    subst hA
    intro _ hw'
    obtain ⟨⟨nq, osq⟩, hw''⟩ := hw'
    subst hw''
    clear C2 p0 p1 p2 p3 p4 q0 wA wB oA oB oC hcx hcx'
    go_wp2_with fail
    go_ret
    exact ⟨rfl, Below.next B2.out (below_regrown _ _ _)⟩
end Go.Proofs.YtglgmkikegbchaaGreat
