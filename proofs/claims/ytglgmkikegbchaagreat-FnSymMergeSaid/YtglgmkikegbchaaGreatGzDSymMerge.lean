/- spec.Done of symMerge (its frame printed by gen/done.py). -/
import Derived.Test.YtglgmkikegbchaaGreatGzRdy
import Derived.Test.YtglgmkikegbchaaGreatGBS
import Derived.Test.YtglgmkikegbchaaGreatGzNumE
import Derived.Test.YtglgmkikegbchaaGreatGzStab
namespace Go.Proofs.YtglgmkikegbchaaGreat
open Go.RowKit Go.Sort Go.Maps



set_option maxHeartbeats 8000000 in
set_option maxRecDepth 1000000 in
theorem done_symMerge (a na ra : Option Addr) (cap n ncap b cap' rcap : Nat) (d : Array It) (o : Ordr) (x y z : Nat) (w : World) (h : Arg w a cap d) (hn : d.size = n) (hsz : n ≤ 2000) (hs0 : 0 ≤ o.shift) (hs1 : o.shift < 64) (hk3 : o.kind ≠ 3) (hr : inR d) (hN : RdN w na #[(x : Int), (y : Int), (z : Int)])
    (hb : b < w.heap.size) (hH : Holds2 w b 0 (symMerge (ltC (cfO o)) d x y z)) (hc' : n ≤ cap') (hR : RdN w ra #[]) (h1 : x < y) (h2 : y < z) (h3 : z ≤ n) (er : (ascB (ltC (cfO o)) (d.extract x y) && ascB (ltC (cfO o)) (d.extract y z)) = true) :
    Calls Tryz.prog 35 #[.int .i64 15, .slice a n cap, vOrd o, .slice na 3 ncap, .slice (some ⟨b, 0, none⟩) n cap', .slice ra 0 rcap] w fun e w' => e = .returned (.bool true) ∧ Below w.heap.size w w' := by
  obtain ⟨d', hd'⟩ : ∃ d', d' = (symMerge (ltC (cfO o)) d x y z) := ⟨_, rfl⟩
  rw [← hd'] at hH
  have hp : PermIn (x) (z) d d' := by rw [hd']; exact perm_symMerge (ltC (cfO o)) d x y z (by omega) (by omega) (by omega)
  have hn' : d'.size = n := hp.1.trans hn
  have HRDY : SortedIn (ltBy (muO o)) x y d ∧ SortedIn (ltBy (muO o)) y z d := by
    rw [Bool.and_eq_true, ltC_by o hk3] at er
    exact ⟨sorted_of_asc (by omega) er.1, sorted_of_asc (by omega) er.2⟩
  clear er
  have hstab : d' = (putL d.toList (x) (stablyP (ltC (cfO o)) (d.extract (x) z).toList)).toArray := by
    rw [hd', ltC_by o hk3]
    exact stab_eq d _ (x) z (by omega) (by omega) (symMerge_stable _ x y z d (Nat.le_refl _) h1 h2 (by omega) HRDY.1 HRDY.2)
  have HG0 : Aside (d' = (putL d.toList (x) (stablyP (ltC (cfO o)) (d.extract (x) z).toList)).toArray) := hstab
  clear hstab
  clear hd'
  obtain ⟨k, s, m0, m1, m2⟩ := o
  have B0 : Aside (Below w.heap.size w (w.alloc (.cells #[.int .i64 k, .int .i64 s, .int .u64 m0, .int .u64 m1, .int .u64 m2] 26))) := below_alloc _ _
  have K0 : Aside (BoxK (w.alloc (.cells #[.int .i64 k, .int .i64 s, .int .u64 m0, .int .u64 m1, .int .u64 m2] 26)) w.heap.size k s m0 m1 m2) := boxK_new _ _ _ _ _ _ _
  have R' : Rd2 w (some ⟨b, 0, none⟩) d' := fun _ => ⟨b, 0, rfl, hb, fun i hi => ⟨(hH i hi).1, (hH i hi).2.1⟩⟩
  have hNum : ∀ W, Below w.heap.size w W → Calls Tryz.prog 26 #[.int .i64 15, .int .i64 n, .slice na 3 ncap] W fun e w' => e = .returned (.tuple #[.int .i64 ((x : Int)), .int .i64 ((z : Int)), .bool true]) ∧ Below W.heap.size W w' := fun W hW => by
    have := numbers_15 (n : Int) na ncap x y z W (hN.keep hW) ⟨by omega, by omega⟩ ⟨by omega, by omega⟩ ⟨by omega, by omega⟩
    rwa [show (decide ((x : Int) < (y : Int)) && decide ((y : Int) < (z : Int)) && decide ((z : Int) ≤ (n : Int))) = true by simp only [Bool.and_eq_true, decide_eq_true_eq]; omega] at this
  have hKept := fun W (hW : Below w.heap.size w W) => kept_calls a cap cap' n (x) (z) b d d' W (h.keep hW) (R'.keep hW) hn hc' hsz hr (by omega) (by omega) hp
  push_cast at hKept
  go_enter Tryz.func35, Tryz.ntmps35
  go_wp2_with fail
  refine (hNum _ B0.out).mono ?_
  rintro e w1 ⟨rfl, hb1⟩
  have B1 : Aside (Below w.heap.size w w1) := Below.next B0.out hb1
  have K1 : Aside (BoxK w1 w.heap.size k s m0 m1 m2) := K0.out.keep hb1
  clear hb1 B0 K0
  go_wp2_with fail
  refine (hKept _ B1.out).mono ?_
  rintro e w2 ⟨rfl, hb1⟩
  have B2 : Aside (Below w.heap.size w w2) := Below.next B1.out hb1
  have K2 : Aside (BoxK w2 w.heap.size k s m0 m1 m2) := K1.out.keep hb1
  clear hb1 B1 K1 hKept hNum
  obtain ⟨nb, noff, rfl, hnb, hnc⟩ := hN (by simp)
  have n0 := (B2.out.cell (p := ⟨nb, noff + 0, none⟩) hnb).trans (hnc 0 (by simp))
  have n1 := (B2.out.cell (p := ⟨nb, noff + 1, none⟩) hnb).trans (hnc 1 (by simp))
  have n2 := (B2.out.cell (p := ⟨nb, noff + 2, none⟩) hnb).trans (hnc 2 (by simp))
  simp at n0 n1 n2
  have RA : Aside (Rd2 w2 a d) := h.rd.keep B2.out
  have RB : Aside (Rd2 w2 (some ⟨b, 0, none⟩) d') := R'.keep B2.out
  have HZ : Aside (a = none → d.size = 0 ∧ cap = 0) := h.nil
  have HR : Aside (RdN w2 ra #[]) := hR.keep B2.out
  have HC : Aside (d.size = n ∧ d'.size = n ∧ d.size ≤ cap ∧ n ≤ cap' ∧ inR d ∧ PermIn (x) (z) d d') := ⟨hn, hn', h.le, hc', hr, hp⟩
  clear h hr hH hp R' hN hnc hnb hc' hn hn' hR hb
  have HG : Aside (d' = (putL d.toList (x) (stablyP (ltC (cfO (⟨k, s, m0, m1, m2⟩ : Ordr))) (d.extract (x) z).toList)).toArray) := HG0
  clear HG0 HR
  have HO : Aside (0 ≤ s ∧ s < 64) := ⟨hs0, hs1⟩
  obtain ⟨hn, hn', hca, hcb, -, -⟩ := HC.out
  obtain ⟨_, k0, k1, k2, k3, k4⟩ := K2.out
  have wA : IntKind.i64.wrap (x : Int) = (x : Int) := by rw [IntKind.wrap_i64]; omega
  have wB : IntKind.i64.wrap (z : Int) = (z : Int) := by rw [IntKind.wrap_i64]; omega
  have oA : (x : Int) ≤ (z : Int) := by omega
  have oB : (z : Int) ≤ (cap : Int) := by omega
  by_cases h0 : n = 0
  · exact absurd h0 (by omega)
  · obtain ⟨blk, off, rfl, _, _⟩ := RA.out (by omega)
    by_cases hcx : cap = x
    · obtain ⟨e1, e2, e3⟩ : x = n ∧ x = z ∧ x = cap := by omega
      subst e1
      subst e2
      subst e3
      have HS : Aside _ := stably_calls (some ⟨blk, off, none⟩) (0) (0) (d.extract (x) x) ⟨k, s, m0, m1, m2⟩ w2.drew (by intro h; exact absurd h (by rw [Array.size_extract]; omega)) (by rw [Array.size_extract]; omega) (by omega) HO.out.1 HO.out.2
      have HPutAll : Aside (∀ (ra3 : Option Addr) (rc3 : Nat) (w3 : World), Rd2 w3 ra3 (stablyP (ltC (cfO ⟨k, s, m0, m1, m2⟩)) (d.extract (x) x).toList).toArray → Below w2.heap.size w2 w3 → Calls Tryz.prog 50 #[.slice (some ⟨blk, off, none⟩) x x, .int .i64 ((x : Int)), .slice ra3 (0) rc3] w3 fun ev w' => ∃ ra rcap, ev = .returned (.slice ra x rcap) ∧ Rd2 w' ra (putL d.toList (x) (stablyP (ltC (cfO ⟨k, s, m0, m1, m2⟩)) (d.extract (x) x).toList)).toArray ∧ Below w3.heap.size w3 w') :=
        fun ra3 rc3 w3 hr3 B3 => put_calls (some ⟨blk, off, none⟩) ra3 x x (x) (0) rc3 d (stablyP (ltC (cfO ⟨k, s, m0, m1, m2⟩)) (d.extract (x) x).toList).toArray w3 (RA.out.keep B3) hn (fun e => by cases e) hsz hr3 (by rw [List.size_toArray, length_stablyP, Array.length_toList, Array.size_extract]; omega) (by omega)
      have HSameAll : Aside (∀ (ra4 : Option Addr) (rc4 : Nat) (w4 : World), Rd2 w4 ra4 (putL d.toList (x) (stablyP (ltC (cfO ⟨k, s, m0, m1, m2⟩)) (d.extract (x) x).toList)).toArray → Below w2.heap.size w2 w4 → Calls Tryz.prog 30 #[.slice (some ⟨b, 0, none⟩) x cap', .slice ra4 x rc4] w4 fun e w' => e = .returned (.bool true) ∧ ∃ q, w' = w4.drewN q) := fun ra4 rc4 w4 hr4 B4 => by
        have hsz4 : (putL d.toList (x) (stablyP (ltC (cfO ⟨k, s, m0, m1, m2⟩)) (d.extract (x) x).toList)).toArray.size = x := by rw [← HG.out]; exact hn'
        have h := same_calls (some ⟨b, 0, none⟩) ra4 cap' rc4 d' (putL d.toList (x) (stablyP (ltC (cfO ⟨k, s, m0, m1, m2⟩)) (d.extract (x) x).toList)).toArray w4 (RB.out.keep B4) hr4 (by omega)
        rw [hsz4, hn', decide_eq_true HG.out] at h
        exact h
      have hbd : Below w2.heap.size w2 w2.drew := below_drewN (Below.refl _ _) 1
      clear n0 n1 n2 RA RB HC HG HZ hn hn'
      go_upto_region 8 with fail
      go_region_held (fun w' => Below w2.heap.size w2 w' ∧ w'.cell? ⟨w.heap.size, 0, none⟩ = some (.int .i64 k) ∧ w'.cell? ⟨w.heap.size, 1, none⟩ = some (.int .i64 s) ∧ w'.cell? ⟨w.heap.size, 2, none⟩ = some (.int .u64 m0) ∧ w'.cell? ⟨w.heap.size, 3, none⟩ = some (.int .u64 m1) ∧ w'.cell? ⟨w.heap.size, 4, none⟩ = some (.int .u64 m2)) (first | assumption | go_keep)
        (first
          | (go_at_call 51; refine Calls.mono HS.out ?_; rintro e w3 ⟨ra3, rc3, rfl, hr3, _, hb3⟩; have hb30 : Below w2.heap.size w2 w3 := Below.next (w1 := w2.drew) hbd hb3; have SS3 := And.intro hb30 (And.intro ((hb30.cell (block_lt_of_cell k0)).trans k0) (And.intro ((hb30.cell (block_lt_of_cell k1)).trans k1) (And.intro ((hb30.cell (block_lt_of_cell k2)).trans k2) (And.intro ((hb30.cell (block_lt_of_cell k3)).trans k3) ((hb30.cell (block_lt_of_cell k4)).trans k4))))))
          | (go_at_call 50; refine Calls.mono (HPutAll.out _ _ _ (by assumption) (by assumption)) ?_; rintro e w4 ⟨ra4, rc4, rfl, hr4, hb4⟩; have hb40 : Below w2.heap.size w2 w4 := Below.next (by assumption) hb4; have SS4 := And.intro hb40 (And.intro ((hb40.cell (block_lt_of_cell k0)).trans k0) (And.intro ((hb40.cell (block_lt_of_cell k1)).trans k1) (And.intro ((hb40.cell (block_lt_of_cell k2)).trans k2) (And.intro ((hb40.cell (block_lt_of_cell k3)).trans k3) ((hb40.cell (block_lt_of_cell k4)).trans k4))))))
          | (go_at_call 30; refine Calls.mono (HSameAll.out _ _ _ (by assumption) (by assumption)) ?_; rintro e w5 ⟨rfl, q, rfl⟩; have hb50 : Below w2.heap.size w2 (World.drewN _ q) := below_drewN (by assumption) q; have SS5 := And.intro hb50 (And.intro ((hb50.cell (block_lt_of_cell k0)).trans k0) (And.intro ((hb50.cell (block_lt_of_cell k1)).trans k1) (And.intro ((hb50.cell (block_lt_of_cell k2)).trans k2) (And.intro ((hb50.cell (block_lt_of_cell k3)).trans k3) ((hb50.cell (block_lt_of_cell k4)).trans k4)))))))
      have HB5 : Aside _ := Below.next B2.out hb50
      clear SS3 SS4 SS5 hb30 hb40 hb50 hb3 hb4 hr3 hr4 HS HPutAll HSameAll hbd k0 k1 k2 k3 k4
      go_wp2_with fail
      go_ret
      exact ⟨rfl, HB5.out⟩
    · skip
      have HS : Aside _ := stably_calls (some ⟨blk, off + x * 2, none⟩) (cap - x) (z - x) (d.extract (x) z) ⟨k, s, m0, m1, m2⟩ w2.drew (by exact (Rd2.part x z (by omega) RA.out).keep (w' := w2.drew) (below_drewN (Below.refl _ _) 1)) (by rw [Array.size_extract]; omega) (by omega) HO.out.1 HO.out.2
      have HPutAll : Aside (∀ (ra3 : Option Addr) (rc3 : Nat) (w3 : World), Rd2 w3 ra3 (stablyP (ltC (cfO ⟨k, s, m0, m1, m2⟩)) (d.extract (x) z).toList).toArray → Below w2.heap.size w2 w3 → Calls Tryz.prog 50 #[.slice (some ⟨blk, off, none⟩) n cap, .int .i64 ((x : Int)), .slice ra3 (z - x) rc3] w3 fun ev w' => ∃ ra rcap, ev = .returned (.slice ra n rcap) ∧ Rd2 w' ra (putL d.toList (x) (stablyP (ltC (cfO ⟨k, s, m0, m1, m2⟩)) (d.extract (x) z).toList)).toArray ∧ Below w3.heap.size w3 w') :=
        fun ra3 rc3 w3 hr3 B3 => put_calls (some ⟨blk, off, none⟩) ra3 cap n (x) (z - x) rc3 d (stablyP (ltC (cfO ⟨k, s, m0, m1, m2⟩)) (d.extract (x) z).toList).toArray w3 (RA.out.keep B3) hn (fun e => by cases e) hsz hr3 (by rw [List.size_toArray, length_stablyP, Array.length_toList, Array.size_extract]; omega) (by omega)
      have HSameAll : Aside (∀ (ra4 : Option Addr) (rc4 : Nat) (w4 : World), Rd2 w4 ra4 (putL d.toList (x) (stablyP (ltC (cfO ⟨k, s, m0, m1, m2⟩)) (d.extract (x) z).toList)).toArray → Below w2.heap.size w2 w4 → Calls Tryz.prog 30 #[.slice (some ⟨b, 0, none⟩) n cap', .slice ra4 n rc4] w4 fun e w' => e = .returned (.bool true) ∧ ∃ q, w' = w4.drewN q) := fun ra4 rc4 w4 hr4 B4 => by
        have hsz4 : (putL d.toList (x) (stablyP (ltC (cfO ⟨k, s, m0, m1, m2⟩)) (d.extract (x) z).toList)).toArray.size = n := by rw [← HG.out]; exact hn'
        have h := same_calls (some ⟨b, 0, none⟩) ra4 cap' rc4 d' (putL d.toList (x) (stablyP (ltC (cfO ⟨k, s, m0, m1, m2⟩)) (d.extract (x) z).toList)).toArray w4 (RB.out.keep B4) hr4 (by omega)
        rw [hsz4, hn', decide_eq_true HG.out] at h
        exact h
      have hbd : Below w2.heap.size w2 w2.drew := below_drewN (Below.refl _ _) 1
      clear n0 n1 n2 RA RB HC HG HZ hn hn'
      go_upto_region 8 with fail
      go_region_held (fun w' => Below w2.heap.size w2 w' ∧ w'.cell? ⟨w.heap.size, 0, none⟩ = some (.int .i64 k) ∧ w'.cell? ⟨w.heap.size, 1, none⟩ = some (.int .i64 s) ∧ w'.cell? ⟨w.heap.size, 2, none⟩ = some (.int .u64 m0) ∧ w'.cell? ⟨w.heap.size, 3, none⟩ = some (.int .u64 m1) ∧ w'.cell? ⟨w.heap.size, 4, none⟩ = some (.int .u64 m2)) (first | assumption | go_keep)
        (first
          | (go_at_call 51; refine Calls.mono HS.out ?_; rintro e w3 ⟨ra3, rc3, rfl, hr3, _, hb3⟩; have hb30 : Below w2.heap.size w2 w3 := Below.next (w1 := w2.drew) hbd hb3; have SS3 := And.intro hb30 (And.intro ((hb30.cell (block_lt_of_cell k0)).trans k0) (And.intro ((hb30.cell (block_lt_of_cell k1)).trans k1) (And.intro ((hb30.cell (block_lt_of_cell k2)).trans k2) (And.intro ((hb30.cell (block_lt_of_cell k3)).trans k3) ((hb30.cell (block_lt_of_cell k4)).trans k4))))))
          | (go_at_call 50; refine Calls.mono (HPutAll.out _ _ _ (by assumption) (by assumption)) ?_; rintro e w4 ⟨ra4, rc4, rfl, hr4, hb4⟩; have hb40 : Below w2.heap.size w2 w4 := Below.next (by assumption) hb4; have SS4 := And.intro hb40 (And.intro ((hb40.cell (block_lt_of_cell k0)).trans k0) (And.intro ((hb40.cell (block_lt_of_cell k1)).trans k1) (And.intro ((hb40.cell (block_lt_of_cell k2)).trans k2) (And.intro ((hb40.cell (block_lt_of_cell k3)).trans k3) ((hb40.cell (block_lt_of_cell k4)).trans k4))))))
          | (go_at_call 30; refine Calls.mono (HSameAll.out _ _ _ (by assumption) (by assumption)) ?_; rintro e w5 ⟨rfl, q, rfl⟩; have hb50 : Below w2.heap.size w2 (World.drewN _ q) := below_drewN (by assumption) q; have SS5 := And.intro hb50 (And.intro ((hb50.cell (block_lt_of_cell k0)).trans k0) (And.intro ((hb50.cell (block_lt_of_cell k1)).trans k1) (And.intro ((hb50.cell (block_lt_of_cell k2)).trans k2) (And.intro ((hb50.cell (block_lt_of_cell k3)).trans k3) ((hb50.cell (block_lt_of_cell k4)).trans k4)))))))
      have HB5 : Aside _ := Below.next B2.out hb50
      clear SS3 SS4 SS5 hb30 hb40 hb50 hb3 hb4 hr3 hr4 HS HPutAll HSameAll hbd k0 k1 k2 k3 k4
      go_wp2_with fail
      go_ret
      exact ⟨rfl, HB5.out⟩
end Go.Proofs.YtglgmkikegbchaaGreat
