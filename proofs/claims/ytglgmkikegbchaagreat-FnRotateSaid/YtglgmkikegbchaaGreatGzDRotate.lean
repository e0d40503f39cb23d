/- spec.Done of rotate (its frame printed by gen/done.py). -/
import Derived.Test.YtglgmkikegbchaaGreatGBS
import Derived.Test.YtglgmkikegbchaaGreatGzNumE
import Derived.Test.YtglgmkikegbchaaGreatGzRot
namespace Go.Proofs.YtglgmkikegbchaaGreat
open Go.RowKit Go.Sort Go.Maps



set_option maxHeartbeats 8000000 in
set_option maxRecDepth 1000000 in
theorem done_rotate (a na ra : Option Addr) (cap n ncap b cap' rcap : Nat) (d : Array It) (o : Ordr) (x y z : Nat) (w : World) (h : Arg w a cap d) (hn : d.size = n) (hsz : n ≤ 2000) (hs0 : 0 ≤ o.shift) (hs1 : o.shift < 64) (hk3 : o.kind ≠ 3) (hr : inR d) (hN : RdN w na #[(x : Int), (y : Int), (z : Int)])
    (hb : b < w.heap.size) (hH : Holds2 w b 0 (rotate d x y z)) (hc' : n ≤ cap') (hR : RdN w ra #[]) (h1 : x < y) (h2 : y < z) (h3 : z ≤ n) :
    Calls Tryz.prog 35 #[.int .i64 16, .slice a n cap, vOrd o, .slice na 3 ncap, .slice (some ⟨b, 0, none⟩) n cap', .slice ra 0 rcap] w fun e w' => e = .returned (.bool true) ∧ Below w.heap.size w w' := by
  obtain ⟨d', hd'⟩ : ∃ d', d' = (rotate d x y z) := ⟨_, rfl⟩
  rw [← hd'] at hH
  have hp : PermIn (x) (z) d d' := by rw [hd']; exact perm_rotate (ltC (cfO o)) d x y z (by omega) (by omega) (by omega)
  have hn' : d'.size = n := hp.1.trans hn
  have HG0 : Aside (d' = (putL d.toList x (rotL d x y z)).toArray) := rot_eq d d' x y z h1 h2 (by omega) (by rw [hd']; exact (rotate_spec d x y z h1 h2 (by omega)).1)
  clear hd'
  obtain ⟨k, s, m0, m1, m2⟩ := o
  have B0 : Aside (Below w.heap.size w (w.alloc (.cells #[.int .i64 k, .int .i64 s, .int .u64 m0, .int .u64 m1, .int .u64 m2] 26))) := below_alloc _ _
  have K0 : Aside (BoxK (w.alloc (.cells #[.int .i64 k, .int .i64 s, .int .u64 m0, .int .u64 m1, .int .u64 m2] 26)) w.heap.size k s m0 m1 m2) := boxK_new _ _ _ _ _ _ _
  have R' : Rd2 w (some ⟨b, 0, none⟩) d' := fun _ => ⟨b, 0, rfl, hb, fun i hi => ⟨(hH i hi).1, (hH i hi).2.1⟩⟩
  have hNum : ∀ W, Below w.heap.size w W → Calls Tryz.prog 26 #[.int .i64 16, .int .i64 n, .slice na 3 ncap] W fun e w' => e = .returned (.tuple #[.int .i64 ((x : Int)), .int .i64 ((z : Int)), .bool true]) ∧ Below W.heap.size W w' := fun W hW => by
    have := numbers_16 (n : Int) na ncap x y z W (hN.keep hW) ⟨by omega, by omega⟩ ⟨by omega, by omega⟩ ⟨by omega, by omega⟩
    rwa [show (decide ((x : Int) < (y : Int)) && decide ((y : Int) < (z : Int)) && decide ((z : Int) ≤ (n : Int))) = true by simp only [Bool.and_eq_true, decide_eq_true_eq]; omega] at this
  have hKept := fun W (hW : Below w.heap.size w W) => kept_calls a cap cap' n (x) (z) b d d' W (h.keep hW) (R'.keep hW) hn hc' hsz hr (by omega) (by omega) hp
  push_cast at hKept
  go_enter Tryz.func35, Tryz.ntmps35
  go_wp2_with fail
  refine (hNum _ B0.out).mono ?_
  rintro e w1 ⟨rfl, hb1⟩
  have B1 : Aside (Below w.heap.size w w1) := Below.next B0.out hb1
  have K1 : Aside (BoxK w1 w.heap.size k s m0 m1 m2) := K0.out.keep hb1
  clear hb1 B0 K0
  go_wp2_with fail
  refine (hKept _ B1.out).mono ?_
  rintro e w2 ⟨rfl, hb1⟩
  have B2 : Aside (Below w.heap.size w w2) := Below.next B1.out hb1
  have K2 : Aside (BoxK w2 w.heap.size k s m0 m1 m2) := K1.out.keep hb1
  clear hb1 B1 K1 hKept hNum
  obtain ⟨nb, noff, rfl, hnb, hnc⟩ := hN (by simp)
  have n0 := (B2.out.cell (p := ⟨nb, noff + 0, none⟩) hnb).trans (hnc 0 (by simp))
  have n1 := (B2.out.cell (p := ⟨nb, noff + 1, none⟩) hnb).trans (hnc 1 (by simp))
  have n2 := (B2.out.cell (p := ⟨nb, noff + 2, none⟩) hnb).trans (hnc 2 (by simp))
  simp at n0 n1 n2
  have RA : Aside (Rd2 w2 a d) := h.rd.keep B2.out
  have RB : Aside (Rd2 w2 (some ⟨b, 0, none⟩) d') := R'.keep B2.out
  have HZ : Aside (a = none → d.size = 0 ∧ cap = 0) := h.nil
  have HR : Aside (RdN w2 ra #[]) := hR.keep B2.out
  have HC : Aside (d.size = n ∧ d'.size = n ∧ d.size ≤ cap ∧ n ≤ cap' ∧ inR d ∧ PermIn (x) (z) d d') := ⟨hn, hn', h.le, hc', hr, hp⟩
  clear h hr hH hp R' hN hnc hnb hc' hn hn' hR hb
  have HG : Aside (d' = (putL d.toList x (rotL d x y z)).toArray) := HG0
  clear HG0 HR K2
  obtain ⟨hn, hn', hca, hcb, -, -⟩ := HC.out
  have wX : IntKind.i64.wrap (x : Int) = (x : Int) := by rw [IntKind.wrap_i64]; omega
  have wY : IntKind.i64.wrap (y : Int) = (y : Int) := by rw [IntKind.wrap_i64]; omega
  have wZ : IntKind.i64.wrap (z : Int) = (z : Int) := by rw [IntKind.wrap_i64]; omega
  have oX : (x : Int) ≤ (y : Int) := by omega
  have oY : (y : Int) ≤ (z : Int) := by omega
  have oA : (y : Int) ≤ (cap : Int) := by omega
  have oB : (z : Int) ≤ (cap : Int) := by omega
  have hcx : ¬ cap = x := by omega
  have hcy : ¬ cap = y := by omega
  obtain ⟨blk, off, rfl, _, _⟩ := RA.out (by omega)
  have P1 : Aside (Rd2 w2 (some ⟨blk, off + y * 2, none⟩) (d.extract y z) ∧ (d.extract y z).size = z - y) := ⟨Rd2.part y z (by omega) RA.out, by rw [Array.size_extract]; omega⟩
  have P2 : Aside (Rd2 w2 (some ⟨blk, off + x * 2, none⟩) (d.extract x y) ∧ (d.extract x y).size = y - x) := ⟨Rd2.part x y (by omega) RA.out, by rw [Array.size_extract]; omega⟩
  have HPutAll : Aside (∀ (ra3 : Option Addr) (rc3 : Nat) (w3 : World), Rd2 w3 ra3 (rotL d x y z).toArray → Below w2.heap.size w2 w3 → Calls Tryz.prog 50 #[.slice (some ⟨blk, off, none⟩) n cap, .int .i64 (x : Int), .slice ra3 (z - y + (y - x)) rc3] w3 fun ev w' => ∃ ra rcap, ev = .returned (.slice ra n rcap) ∧ Rd2 w' ra (putL d.toList x (rotL d x y z)).toArray ∧ Below w3.heap.size w3 w') :=
    fun ra3 rc3 w3 hr3 B3 => put_calls (some ⟨blk, off, none⟩) ra3 cap n x (z - y + (y - x)) rc3 d (rotL d x y z).toArray w3 (RA.out.keep B3) hn (fun e => by cases e) hsz hr3 (by rw [List.size_toArray, length_rotL d x y z h1 h2 (by omega)]) (by omega)
  have HSameAll : Aside (∀ (ra4 : Option Addr) (rc4 : Nat) (w4 : World), Rd2 w4 ra4 (putL d.toList x (rotL d x y z)).toArray → Below w2.heap.size w2 w4 → Calls Tryz.prog 30 #[.slice (some ⟨b, 0, none⟩) n cap', .slice ra4 n rc4] w4 fun e w' => e = .returned (.bool true) ∧ ∃ q, w' = w4.drewN q) := fun ra4 rc4 w4 hr4 B4 => by
    have hsz4 : (putL d.toList x (rotL d x y z)).toArray.size = n := by rw [← HG.out]; exact hn'
    have h := same_calls (some ⟨b, 0, none⟩) ra4 cap' rc4 d' (putL d.toList x (rotL d x y z)).toArray w4 (RB.out.keep B4) hr4 (by omega)
    rw [hsz4, hn', decide_eq_true HG.out] at h
    exact h
  have HL1 : Aside (0 < z - y ∧ 0 + (z - y) ≤ 2000) := ⟨by omega, by omega⟩
  have HL2 : Aside (0 < y - x ∧ z - y + (y - x) ≤ 2000) := ⟨by omega, by omega⟩
  have NB : Aside (nb < w2.heap.size) := by show _ < _; exact block_lt_of_cell (a := ⟨nb, noff, none⟩) n0
  have N0 : Aside (w2.cell? ⟨nb, noff, none⟩ = some (.int .i64 (x : Int)) ∧ w2.cell? ⟨nb, noff + 1, none⟩ = some (.int .i64 (y : Int)) ∧ w2.cell? ⟨nb, noff + 2, none⟩ = some (.int .i64 (z : Int))) := ⟨n0, n1, n2⟩
  have hNil : Aside (∀ W : World, W.ownsRow w2.heap.size 49 2 (.slice none 0 0) 0 (cells2 [])) := fun W => World.ownsRow_nil _ _ _ _
  have hbd : Below w2.heap.size w2 w2.drew := below_drewN (Below.refl _ _) 1
  clear RA RB HC HG HZ hn hn'
  go_upto_region 41 with fail
  go_region_held_law (fun w' => Below w2.heap.size w2 w' ∧ w'.cell? ⟨nb, noff, none⟩ = some (.int .i64 (x : Int)) ∧ w'.cell? ⟨nb, noff + 1, none⟩ = some (.int .i64 (y : Int)) ∧ w'.cell? ⟨nb, noff + 2, none⟩ = some (.int .i64 (z : Int))) (first | assumption | go_keep)
    (first
      | (refine step_rot (w2 := w2) (by rfl) _ _ (by rfl) _ 0 [] (by rfl) (by exact hNil.out _) (by assumption) blk (off + y * 2) (z - y) (cap - y) (d.extract y z) P1.out.1 (by rfl) P1.out.2 HL1.out.1 HL1.out.2 (d.extract y z).toList rfl (z - y) (Nat.zero_add _).symm ?_; intro g1 rc1 w3 HO1; have hb30 := HO1.out.2.2; have SS3 := And.intro hb30 (And.intro ((hb30.cell (p := ⟨nb, noff, none⟩) NB.out).trans N0.out.1) (And.intro ((hb30.cell (p := ⟨nb, noff + 1, none⟩) NB.out).trans N0.out.2.1) ((hb30.cell (p := ⟨nb, noff + 2, none⟩) NB.out).trans N0.out.2.2))))
      | (go_at_call 50; refine Calls.mono (HPutAll.out _ _ _ HO2.out.2.1 (by assumption)) ?_; rintro e w5 ⟨ra4, rc4, rfl, hr4, hb4⟩; have hb50 : Below w2.heap.size w2 w5 := Below.next (by assumption) hb4; have SS5 := And.intro hb50 (And.intro ((hb50.cell (p := ⟨nb, noff, none⟩) NB.out).trans N0.out.1) (And.intro ((hb50.cell (p := ⟨nb, noff + 1, none⟩) NB.out).trans N0.out.2.1) ((hb50.cell (p := ⟨nb, noff + 2, none⟩) NB.out).trans N0.out.2.2))))
      | (go_at_call 30; refine Calls.mono (HSameAll.out _ _ _ (by assumption) (by assumption)) ?_; rintro e w6 ⟨rfl, q, rfl⟩; have hb60 : Below w2.heap.size w2 (World.drewN _ q) := below_drewN (by assumption) q; have SS6 := And.intro hb60 (And.intro ((hb60.cell (p := ⟨nb, noff, none⟩) NB.out).trans N0.out.1) (And.intro ((hb60.cell (p := ⟨nb, noff + 1, none⟩) NB.out).trans N0.out.2.1) ((hb60.cell (p := ⟨nb, noff + 2, none⟩) NB.out).trans N0.out.2.2))))
      | (refine step_rot (w2 := w2) (by rfl) _ _ (by rfl) _ (z - y) (d.extract y z).toList (by rfl) (by exact HO1.out.1) (by assumption) blk (off + x * 2) (y - x) (cap - x) (d.extract x y) P2.out.1 (by rfl) P2.out.2 HL2.out.1 HL2.out.2 (rotL d x y z) rfl (z - y + (y - x)) rfl ?_; intro g2 rc2 w4 HO2; have hb40 := HO2.out.2.2; have SS4 := And.intro hb40 (And.intro ((hb40.cell (p := ⟨nb, noff, none⟩) NB.out).trans N0.out.1) (And.intro ((hb40.cell (p := ⟨nb, noff + 1, none⟩) NB.out).trans N0.out.2.1) ((hb40.cell (p := ⟨nb, noff + 2, none⟩) NB.out).trans N0.out.2.2)))))
  have HB5 : Aside _ := Below.next B2.out hb60
  clear hb60 hb50 hb40 hb30 SS3 SS4 SS5 SS6 hb4 hr4 n0 n1 n2 HO1 HO2 hbd P1 P2 HPutAll HSameAll
  go_wp2_with fail
  go_ret
  exact ⟨rfl, HB5.out⟩
end Go.Proofs.YtglgmkikegbchaaGreat
