/- Texts of this claim, laid together: zChosen, zMiddle, zChosen2, zChosen3. -/
import Derived.Test.YtglgmkikegbchaaGreatGB
import Derived.Test.YtglgmkikegbchaaGreatGI
import Derived.Deep.CutRange
import Derived.Test.YtglgmkikegbchaaGreatGK
import Derived.Deep.RegionHeld
/- spec.chosen of order2. -/
namespace Go.Proofs.YtglgmkikegbchaaGreat
open Go.RowKit Go.Sort

theorem row3_new (w : World) (x y z : Int) (t : TypeId) : (w.alloc (.cells #[.int .i64 x, .int .i64 y, .int .i64 z] t)).cell? ⟨w.heap.size, 0, none⟩ = some (.int .i64 x) ∧ (w.alloc (.cells #[.int .i64 x, .int .i64 y, .int .i64 z] t)).cell? ⟨w.heap.size, 1, none⟩ = some (.int .i64 y) ∧
    (w.alloc (.cells #[.int .i64 x, .int .i64 y, .int .i64 z] t)).cell? ⟨w.heap.size, 2, none⟩ = some (.int .i64 z) :=
  ⟨cell_at (heap_alloc_new w _) rfl, cell_at (heap_alloc_new w _) rfl, cell_at (heap_alloc_new w _) rfl⟩

set_option maxHeartbeats 4000000 in
set_option maxRecDepth 1000000 in
theorem chosen_order2 (a na ra : Option Addr) (cap n ncap rcap : Nat) (d : Array It) (o : Ordr) (x y : Nat) (w : World) (h : Rd2 w a d) (hn : d.size = n) (hsz : n ≤ 2000) (hs0 : 0 ≤ o.shift) (hs1 : o.shift < 64) (hx : x < n) (hy : y < n)
    (hN : RdN w na #[(x : Int), (y : Int)]) (hR : RdN w ra #[((order2 (ltC (cfO o)) d x y 0).1 : Int), ((order2 (ltC (cfO o)) d x y 0).2.1 : Int), ((order2 (ltC (cfO o)) d x y 0).2.2 : Int)]) :
    Calls Tryz.prog 55 #[.int .i64 9, .slice a n cap, vOrd o, .slice na 2 ncap, .slice ra 3 rcap] w fun e w' => e = .returned (.bool true) ∧ Below w.heap.size w w' := by
  have LC := fun x y W => sless_calls o hs0 hs1 x y W
  generalize ltC (cfO o) = lt at LC hR
  clear hs0 hs1
  obtain ⟨k, s, m0, m1, m2⟩ := o
  obtain ⟨W, hW⟩ : ∃ W, W = w.alloc (.cells #[.int .i64 k, .int .i64 s, .int .u64 m0, .int .u64 m1, .int .u64 m2] 26) := ⟨_, rfl⟩
  have B0 : Below w.heap.size w W := by rw [hW]; exact below_alloc _ _
  have K0 : BoxK W w.heap.size k s m0 m1 m2 := by rw [hW]; exact boxK_new _ _ _ _ _ _ _
  obtain ⟨blk, off, rfl, hbl, hc⟩ := h (by omega)
  obtain ⟨nb, noff, rfl, hnb, hnc⟩ := hN (by simp)
  obtain ⟨rb, roff, rfl, hrb, hrc⟩ := hR (by simp)
  obtain ⟨⟨x1, x2⟩, hxv⟩ : ∃ v : It, v = d[y]! := ⟨_, rfl⟩
  obtain ⟨⟨y1, y2⟩, hyv⟩ : ∃ v : It, v = d[x]! := ⟨_, rfl⟩
  obtain ⟨c, hcc⟩ : ∃ c, c = lt (x1, x2) (y1, y2) := ⟨_, rfl⟩
  obtain ⟨r, hr⟩ : ∃ r, r = order2 lt d x y 0 := ⟨_, rfl⟩
  have hr2 : r = if c = true then (y, x, 0 + 1) else (x, y, 0) := by rw [hr, order2, ← hxv, ← hyv, ← hcc]
  rw [← hr] at hrc
  have n0 := (B0.cell (p := ⟨nb, noff + 0, none⟩) hnb).trans (hnc 0 (by simp))
  have n1 := (B0.cell (p := ⟨nb, noff + 1, none⟩) hnb).trans (hnc 1 (by simp))
  have r0 := (B0.cell (p := ⟨rb, roff + 0, none⟩) hrb).trans (hrc 0 (by simp))
  have r1 := (B0.cell (p := ⟨rb, roff + 1, none⟩) hrb).trans (hrc 1 (by simp))
  have r2 := (B0.cell (p := ⟨rb, roff + 2, none⟩) hrb).trans (hrc 2 (by simp))
  have c1 := (B0.cell (p := ⟨blk, off + y * 2, none⟩) hbl).trans (hc y (by omega)).1
  have c2 := (B0.cell (p := ⟨blk, off + y * 2 + 1, none⟩) hbl).trans (hc y (by omega)).2
  have c3 := (B0.cell (p := ⟨blk, off + x * 2, none⟩) hbl).trans (hc x (by omega)).1
  have c4 := (B0.cell (p := ⟨blk, off + x * 2 + 1, none⟩) hbl).trans (hc x (by omega)).2
  rw [← hxv] at c1 c2
  rw [← hyv] at c3 c4
  simp at n0 n1 r0 r1 r2
  dsimp only at c1 c2 c3 c4
  obtain ⟨_, k0, k1, k2, k3, k4⟩ := K0
  have hl : ∀ p : Regrown, Calls Tryz.prog 47 #[.agg #[.int .i64 k, .int .i64 s, .int .u64 m0, .int .u64 m1, .int .u64 m2], .agg #[.int .i64 x1, .int .i64 x2], .agg #[.int .i64 y1, .int .i64 y2]] (grow (redrawn W p.d) p.os) fun e w'' => e = .returned (.bool c) ∧ ∃ p : Regrown, w'' = grow (redrawn W p.d) p.os := fun p => by
    rw [hcc]; exact Calls.regrown_of (LC (x1, x2) (y1, y2) _)
  have lx : (x : Int) < (n : Int) := by omega
  have ly : (y : Int) < (n : Int) := by omega
  have wx : IntKind.i64.wrap (x : Int) = (x : Int) := by rw [IntKind.wrap_i64]; omega
  have wy : IntKind.i64.wrap (y : Int) = (y : Int) := by rw [IntKind.wrap_i64]; omega
  have p0 := cell_regrown k0
  have p1 := cell_regrown k1
  have p2 := cell_regrown k2
  have p3 := cell_regrown k3
  have p4 := cell_regrown k4
  have q1 := cell_regrown c1
  have q2 := cell_regrown c2
  have q3 := cell_regrown c3
  have q4 := cell_regrown c4
  have a0 := cell_regrown n0
  have a1 := cell_regrown n1
  have HF : Aside (W.cell? ⟨rb, roff, none⟩ = some (.int .i64 r.1) ∧ W.cell? ⟨rb, roff + 1, none⟩ = some (.int .i64 r.2.1) ∧ W.cell? ⟨rb, roff + 2, none⟩ = some (.int .i64 r.2.2)) := ⟨r0, r1, r2⟩
  have HC : Aside (r = if c = true then (y, x, 0 + 1) else (x, y, 0)) := hr2
  have HB : Aside (Below w.heap.size w W) := B0
  have HW : Aside _ := hW
  have mixed : Tryz.prog.follows .mixedOrders = true := by kernel_rfl
  clear n0 n1 r0 r1 r2 c1 c2 c3 c4 hc hnc hrc hbl hnb hrb hxv hyv hcc hr hr2 k0 k1 k2 k3 k4 B0 LC hN hR h hx hy hn
  go_enter Tryz.func55, Tryz.ntmps55
  go_upto_region 8 with fail
  rw [← hW]
  clear hW
  refine wp_region_quiet_below (by assumption) (by kernel_rfl) ?_
  repeat' (quiet_step (with_reducible exact hl _))
  all_goals
    refine wpQuiet_nil ?_
    intro _ hw'
    obtain ⟨⟨nq, osq⟩, hw''⟩ := hw'
    subst hw''
  have B1 : Aside _ := Below.next HB.out (below_regrown W nq osq)
  have b0 := a0 nq osq
  have b1 := a1 nq osq
  have HF1 : Aside _ := And.intro (cell_regrown HF.out.1 nq osq) (And.intro (cell_regrown HF.out.2.1 nq osq) (cell_regrown HF.out.2.2 nq osq))
  clear hl p0 p1 p2 p3 p4 q1 q2 q3 q4 a0 a1 HF HB HW
  generalize grow (redrawn W nq) osq = V at b0 b1 HF1 B1 ⊢
  obtain ⟨v0, v1, v2⟩ := row3_new V x y 0 3
  have BV : Below V.heap.size V (V.alloc (.cells #[.int .i64 x, .int .i64 y, .int .i64 0] 3)).drew := below_drewN (below_alloc _ _) 1
  replace v0 := (World.cell?_drewN _ 1 ⟨V.heap.size, 0, none⟩).trans v0
  replace v1 := (World.cell?_drewN _ 1 ⟨V.heap.size, 1, none⟩).trans v1
  replace v2 := (World.cell?_drewN _ 1 ⟨V.heap.size, 2, none⟩).trans v2
  have BV' : Aside _ := BV
  have v0' : Aside _ := v0
  have v1' : Aside _ := v1
  have v2' : Aside _ := v2
  clear BV v0 v1 v2
  go_wp2_with fail
  go_region
  obtain ⟨X, hX⟩ : ∃ X, X = (V.alloc (.cells #[.int .i64 x, .int .i64 y, .int .i64 0] 3)).drew := ⟨_, rfl⟩
  rw [← hX]
  have BX : Aside (Below w.heap.size w X) := by show Below _ _ _; rw [hX]; exact Below.next B1.out BV'.out
  have hv : Aside (X.cell? ⟨V.heap.size, 0, none⟩ = some (.int .i64 x) ∧ X.cell? ⟨V.heap.size, 1, none⟩ = some (.int .i64 y) ∧ X.cell? ⟨V.heap.size, 2, none⟩ = some (.int .i64 0)) := by show _ ∧ _ ∧ _; rw [hX]; exact ⟨v0'.out, v1'.out, v2'.out⟩
  have hk : ∀ p v, V.cell? p = some v → X.cell? p = some v := fun p v h => by rw [hX]; exact (BV'.out.cell (block_lt_of_cell h)).trans h
  have HF2 : Aside _ := And.intro (hk _ _ HF1.out.1) (And.intro (hk _ _ HF1.out.2.1) (hk _ _ HF1.out.2.2))
  have e0 := hk _ _ b0
  have e1 := hk _ _ b1
  generalize V.heap.size = WB at hv ⊢
  clear hX hk v0' v1' v2' BV' b0 b1 HF1 B1
  cases c with
  | false =>
    have hr : r = (x, y, 0) := HC.out
    subst hr
    obtain ⟨v0, v1, v2⟩ := hv.out
    clear hv e0 e1
    have f0 := fun q => (World.cell?_drewN X q ⟨rb, roff, none⟩).trans HF2.out.1
    have f1 := fun q => (World.cell?_drewN X q ⟨rb, roff + 1, none⟩).trans HF2.out.2.1
    have f2 := fun q => (World.cell?_drewN X q ⟨rb, roff + 2, none⟩).trans HF2.out.2.2
    have g0 := fun q => (World.cell?_drewN X q ⟨WB, 0, none⟩).trans v0
    have g1 := fun q => (World.cell?_drewN X q ⟨WB, 1, none⟩).trans v1
    have g2 := fun q => (World.cell?_drewN X q ⟨WB, 2, none⟩).trans v2
    clear v0 v1 v2
    go_wp2_with fail
    go_quiet (fail)
    go_wp2_with fail
    go_ret
    exact ⟨rfl, below_drewN BX.out _⟩
  | true =>
    have hr : r = (y, x, 0 + 1) := HC.out
    subst hr
    have BV' : Aside _ := below_drewN (below_alloc X (.cells #[.int .i64 y, .int .i64 x, .int .i64 1] 3)) 1
    have hw' : Aside _ := row3_new X y x 1 3
    clear hv
    go_wp2_with fail
    go_region
    obtain ⟨Y, hY⟩ : ∃ Y, Y = (X.alloc (.cells #[.int .i64 y, .int .i64 x, .int .i64 1] 3)).drew := ⟨_, rfl⟩
    rw [← hY]
    obtain ⟨v0, v1, v2⟩ := hw'.out
    replace v0 : Y.cell? ⟨X.heap.size, 0, none⟩ = some (.int .i64 y) := by rw [hY]; exact (World.cell?_drewN _ 1 _).trans v0
    replace v1 : Y.cell? ⟨X.heap.size, 1, none⟩ = some (.int .i64 x) := by rw [hY]; exact (World.cell?_drewN _ 1 _).trans v1
    replace v2 : Y.cell? ⟨X.heap.size, 2, none⟩ = some (.int .i64 1) := by rw [hY]; exact (World.cell?_drewN _ 1 _).trans v2
    have hk : ∀ p v, X.cell? p = some v → Y.cell? p = some v := fun p v h => by rw [hY]; exact (BV'.out.cell (block_lt_of_cell h)).trans h
    have HF3 : Aside _ := And.intro (hk _ _ HF2.out.1) (And.intro (hk _ _ HF2.out.2.1) (hk _ _ HF2.out.2.2))
    have BY : Aside (Below w.heap.size w Y) := by show Below _ _ _; rw [hY]; exact Below.next BX.out BV'.out
    generalize X.heap.size = WB at v0 v1 v2 ⊢
    clear hY hk hw' BV' HF2 BX e0 e1
    have f0 := fun q => (World.cell?_drewN Y q ⟨rb, roff, none⟩).trans HF3.out.1
    have f1 := fun q => (World.cell?_drewN Y q ⟨rb, roff + 1, none⟩).trans HF3.out.2.1
    have f2 := fun q => (World.cell?_drewN Y q ⟨rb, roff + 2, none⟩).trans HF3.out.2.2
    have g0 := fun q => (World.cell?_drewN Y q ⟨WB, 0, none⟩).trans v0
    have g1 := fun q => (World.cell?_drewN Y q ⟨WB, 1, none⟩).trans v1
    have g2 := fun q => (World.cell?_drewN Y q ⟨WB, 2, none⟩).trans v2
    clear v0 v1 v2
    go_wp2_with fail
    go_quiet (fail)
    go_wp2_with fail
    go_ret
    exact ⟨rfl, below_drewN BY.out _⟩
end Go.Proofs.YtglgmkikegbchaaGreat

/- spec.middle: of one of three places whose element has at most one of the others ahead of it, and at most one behind. -/
namespace Go.Proofs.YtglgmkikegbchaaGreat
open Go.RowKit Go.Sort

theorem one_calls (b : Bool) (w : World) : Calls Tryz.prog 116 #[.bool b] w fun e w' => e = .returned (.int .i64 (flagN b)) ∧ w' = w := by
  cases b
  · go_enter Tryz.func116, Tryz.ntmps116
    go_wp2
    go_ret
    exact ⟨rfl, rfl⟩
  · go_enter Tryz.func116, Tryz.ntmps116
    go_wp2
    go_ret
    exact ⟨rfl, rfl⟩

theorem cell_drawn {w : World} {a : Addr} {v : Value} (h : w.cell? a = some v) (q : Nat) : (w.drewN q).cell? a = some v := (World.cell?_drewN w q a).trans h
/-- How many of the first of some places have an element that p holds of. -/
def countC (p : Nat → Bool) : Nat → Int
  | 0 => 0
  | i + 1 => countC p i + flagN (p i)
theorem flagN_range (b : Bool) : 0 ≤ flagN b ∧ flagN b ≤ 1 := by cases b <;> simp [flagN]
theorem countC_range (p : Nat → Bool) : ∀ i, 0 ≤ countC p i ∧ countC p i ≤ i
  | 0 => by simp [countC]
  | i + 1 => by have h1 := countC_range p i; have h2 := flagN_range (p i); simp only [countC]; omega

set_option maxHeartbeats 8000000 in
set_option maxRecDepth 1000000 in
theorem middle_calls (a : Option Addr) (nb noff rb roff cap n ncap rcap : Nat) (d : Array It) (o : Ordr) (T : Nat → Nat) (m s : Nat) (w : World) (h : Rd2 w a d) (hn : d.size = n) (hsz : n ≤ 2000) (hs0 : 0 ≤ o.shift) (hs1 : o.shift < 64)
    (hnb : nb < w.heap.size) (hT : ∀ i, i < 3 → T i < n ∧ w.cell? ⟨nb, noff + i, none⟩ = some (.int .i64 (T i))) (hrb : rb < w.heap.size) (hr0 : w.cell? ⟨rb, roff, none⟩ = some (.int .i64 m)) (hr1 : w.cell? ⟨rb, roff + 1, none⟩ = some (.int .i64 s))
    (hm : m = T 0 ∨ m = T 1 ∨ m = T 2) (hs3 : s ≤ 3) (hA : countC (fun i => ltC (cfO o) d[T i]! d[m]!) 3 ≤ 1) (hB : countC (fun i => ltC (cfO o) d[m]! d[T i]!) 3 ≤ 1) :
    Calls Tryz.prog 118 #[.slice a n cap, vOrd o, .slice (some ⟨nb, noff, none⟩) 3 ncap, .slice (some ⟨rb, roff, none⟩) 2 rcap] w fun e w' => e = .returned (.bool true) ∧ Below w.heap.size w w' := by
  have LC0 := fun x y W => sless_calls o hs0 hs1 x y W
  generalize ltC (cfO o) = lt at LC0 hA hB
  have LC : Aside _ := LC0
  clear LC0
  clear hs0 hs1
  obtain ⟨k, sh, m0, m1, m2⟩ := o
  obtain ⟨W, hW⟩ : ∃ W, W = w.alloc (.cells #[.int .i64 k, .int .i64 sh, .int .u64 m0, .int .u64 m1, .int .u64 m2] 26) := ⟨_, rfl⟩
  have B0 : Below w.heap.size w W := by rw [hW]; exact below_alloc _ _
  have K0 : Aside (BoxK W w.heap.size k sh m0 m1 m2) := by show BoxK _ _ _ _ _ _ _; rw [hW]; exact boxK_new _ _ _ _ _ _ _
  have hmn : m < n := by
    rcases hm with rfl | rfl | rfl
    · exact (hT 0 (by omega)).1
    · exact (hT 1 (by omega)).1
    · exact (hT 2 (by omega)).1
  obtain ⟨blk, off, rfl, hbl, hc⟩ := h (by omega)
  obtain ⟨x, hx⟩ : ∃ x, x = T 0 := ⟨_, rfl⟩
  obtain ⟨y, hy⟩ : ∃ y, y = T 1 := ⟨_, rfl⟩
  obtain ⟨z, hz⟩ : ∃ z, z = T 2 := ⟨_, rfl⟩
  have t0 := cell_drawn ((B0.cell (p := ⟨nb, noff + 0, none⟩) hnb).trans (hT 0 (by omega)).2)
  have t1 := cell_drawn ((B0.cell (p := ⟨nb, noff + 1, none⟩) hnb).trans (hT 1 (by omega)).2)
  have t2 := cell_drawn ((B0.cell (p := ⟨nb, noff + 2, none⟩) hnb).trans (hT 2 (by omega)).2)
  rw [← hx] at t0
  rw [← hy] at t1
  rw [← hz] at t2
  rw [Nat.add_zero] at t0
  have r0 := cell_drawn ((B0.cell (p := ⟨rb, roff, none⟩) hrb).trans hr0)
  have r1 := cell_drawn ((B0.cell (p := ⟨rb, roff + 1, none⟩) hrb).trans hr1)
  have HT : Aside (∀ i, i < 3 → T i < n ∧ W.cell? ⟨nb, noff + i, none⟩ = some (.int .i64 (T i))) := fun i hi => ⟨(hT i hi).1, (B0.cell (p := ⟨nb, noff + i, none⟩) hnb).trans (hT i hi).2⟩
  have HR0 : Aside (W.cell? ⟨rb, roff, none⟩ = some (.int .i64 m)) := (B0.cell (p := ⟨rb, roff, none⟩) hrb).trans hr0
  have HD : Aside (d.size = n ∧ ∀ i, i < d.size → W.cell? ⟨blk, off + i * 2, none⟩ = some (.int .i64 d[i]!.1) ∧ W.cell? ⟨blk, off + i * 2 + 1, none⟩ = some (.int .i64 d[i]!.2)) :=
    ⟨hn, fun i hi => ⟨(B0.cell (p := ⟨blk, off + i * 2, none⟩) hbl).trans (hc i hi).1, (B0.cell (p := ⟨blk, off + i * 2 + 1, none⟩) hbl).trans (hc i hi).2⟩⟩
  have HB : Aside (Below w.heap.size w W) := B0
  have HAB : Aside (countC (fun i => lt d[T i]! d[m]!) 3 ≤ 1 ∧ countC (fun i => lt d[m]! d[T i]!) 3 ≤ 1) := ⟨hA, hB⟩
  have mixed : Tryz.prog.follows .mixedOrders = true := by kernel_rfl
  have s3z : ¬ (3 : Int) < (s : Int) := by omega
  have hcase : (m = x) ∨ (m ≠ x ∧ m = y) ∨ (m ≠ x ∧ m ≠ y ∧ m = z) := by omega
  have HW : Aside _ := hW
  clear hm hx hy hz hT hr0 hr1 hA hB hnb hrb hbl hc B0 h hn
  go_enter Tryz.func118, Tryz.ntmps118
  go_upto_region 1 with fail
  rw [← hW]
  clear hW
  go_cut [54] from 13 to 54 (fun s54 wx => s54 = .bool false ∧ Aside (Below W.heap.size W wx))
  case first =>
    rcases hcase with hm | ⟨hm1, hm2⟩ | ⟨hm1, hm2, hm3⟩
    · subst hm
      refine region_drew (by assumption) (by kernel_rfl) ?_
      repeat' (refine Qw.step (fun K hK => ?_); go_simp; refine hK _ ?_; clear hK K)
      refine Qw.nil ?_
      intro _ hw'
      obtain ⟨nq, hw''⟩ := hw'
      subst hw''
      go_wp2_with fail
      go_meet
      case rel => exact ⟨rfl, below_drewN (Below.refl _ _) _⟩
    · have hm1z : ¬ (m : Int) = (x : Int) := by omega
      subst hm2
      refine region_drew (by assumption) (by kernel_rfl) ?_
      repeat' (refine Qw.step (fun K hK => ?_); go_simp; refine hK _ ?_; clear hK K)
      refine Qw.nil ?_
      intro _ hw'
      obtain ⟨nq, hw''⟩ := hw'
      subst hw''
      go_wp2_with fail
      go_meet
      case rel => exact ⟨rfl, below_drewN (Below.refl _ _) _⟩
    · have hm1z : ¬ (m : Int) = (x : Int) := by omega
      have hm2z : ¬ (m : Int) = (y : Int) := by omega
      subst hm3
      refine region_drew (by assumption) (by kernel_rfl) ?_
      repeat' (refine Qw.step (fun K hK => ?_); go_simp; refine hK _ ?_; clear hK K)
      refine Qw.nil ?_
      intro _ hw'
      obtain ⟨nq, hw''⟩ := hw'
      subst hw''
      go_wp2_with fail
      go_meet
      case rel => exact ⟨rfl, below_drewN (Below.refl _ _) _⟩
  case rest =>
    obtain ⟨rfl, Bc⟩ := hcut
    clear t0 t1 t2 r0 r1 hcase s3z hs3
    go_wp2_with fail
    go_loopg [9, 10, 57] 3 (fun g v9 v10 vi wr => ∃ i : Nat, v9 = .int .i64 (countC (fun i => lt d[T i]! d[m]!) i) ∧ v10 = .int .i64 (countC (fun i => lt d[m]! d[T i]!) i) ∧ vi = .int .i64 i ∧ i ≤ 3 ∧ 3 - i ≤ g ∧ Aside (Below W.heap.size W wr))
    case atStart => exact ⟨0, rfl, rfl, rfl, by omega, by omega, Bc⟩
    case round =>
      clear Bc
      obtain ⟨i, rfl, rfl, rfl, hi3, hg, Bk⟩ := hrel
      by_cases hlt : i < 3
      · have hltz : (i : Int) < 3 := by omega
        obtain ⟨hd, hc⟩ := HD.out
        obtain ⟨hTn, hTc⟩ := HT.out i hlt
        obtain ⟨j, hj⟩ : ∃ j, j = T i := ⟨_, rfl⟩
        rw [← hj] at hTn hTc
        have tc : wr.cell? ⟨nb, noff + i, none⟩ = some (.int .i64 j) := (Bk.out.cell (block_lt_of_cell hTc)).trans hTc
        obtain ⟨⟨x1, x2⟩, hxv⟩ : ∃ v : It, v = d[j]! := ⟨_, rfl⟩
        obtain ⟨⟨y1, y2⟩, hyv⟩ : ∃ v : It, v = d[m]! := ⟨_, rfl⟩
        obtain ⟨e1, e2⟩ := hc j (by omega)
        obtain ⟨e3, e4⟩ := hc m (by omega)
        rw [← hxv] at e1 e2
        rw [← hyv] at e3 e4
        obtain ⟨A, hA⟩ : ∃ A, A = countC (fun i => lt d[T i]! d[m]!) i := ⟨_, rfl⟩
        obtain ⟨B, hB⟩ : ∃ B, B = countC (fun i => lt d[m]! d[T i]!) i := ⟨_, rfl⟩
        obtain ⟨c1, hc1⟩ : ∃ c, c = lt (x1, x2) (y1, y2) := ⟨_, rfl⟩
        obtain ⟨c2, hc2⟩ : ∃ c, c = lt (y1, y2) (x1, x2) := ⟨_, rfl⟩
        obtain ⟨f1, hf1⟩ : ∃ f, f = flagN c1 := ⟨_, rfl⟩
        obtain ⟨f2, hf2⟩ : ∃ f, f = flagN c2 := ⟨_, rfl⟩
        have rA := countC_range (fun i => lt d[T i]! d[m]!) i
        have rB := countC_range (fun i => lt d[m]! d[T i]!) i
        rw [← hA] at rA
        rw [← hB] at rB
        have rf1 := flagN_range c1
        have rf2 := flagN_range c2
        rw [← hf1] at rf1
        rw [← hf2] at rf2
        have HA : Aside (countC (fun i => lt d[T i]! d[m]!) (i + 1) = A + f1) := by show countC _ i + flagN (lt d[T i]! d[m]!) = _; rw [← hA, ← hj, ← hxv, ← hyv, ← hc1, ← hf1]
        have HB2 : Aside (countC (fun i => lt d[m]! d[T i]!) (i + 1) = B + f2) := by show countC _ i + flagN (lt d[m]! d[T i]!) = _; rw [← hB, ← hj, ← hxv, ← hyv, ← hc2, ← hf2]
        rw [← hA, ← hB]
        have hl1 : ∀ (V : World) (p : Regrown), Calls Tryz.prog 47 #[.agg #[.int .i64 k, .int .i64 sh, .int .u64 m0, .int .u64 m1, .int .u64 m2], .agg #[.int .i64 x1, .int .i64 x2], .agg #[.int .i64 y1, .int .i64 y2]] (grow (redrawn V p.d) p.os) fun e w'' => e = .returned (.bool c1) ∧ ∃ p : Regrown, w'' = grow (redrawn V p.d) p.os := fun V p => by
          rw [hc1]; exact Calls.regrown_of (LC.out (x1, x2) (y1, y2) _)
        have hl2 : ∀ (V : World) (p : Regrown), Calls Tryz.prog 47 #[.agg #[.int .i64 k, .int .i64 sh, .int .u64 m0, .int .u64 m1, .int .u64 m2], .agg #[.int .i64 y1, .int .i64 y2], .agg #[.int .i64 x1, .int .i64 x2]] (grow (redrawn V p.d) p.os) fun e w'' => e = .returned (.bool c2) ∧ ∃ p : Regrown, w'' = grow (redrawn V p.d) p.os := fun V p => by
          rw [hc2]; exact Calls.regrown_of (LC.out (y1, y2) (x1, x2) _)
        have ho1 : ∀ (V : World) (p : Regrown), Calls Tryz.prog 116 #[.bool c1] (grow (redrawn V p.d) p.os) fun e w'' => e = .returned (.int .i64 f1) ∧ ∃ p : Regrown, w'' = grow (redrawn V p.d) p.os := fun V p => by
          rw [hf1]; exact (one_calls c1 _).mono fun e w' ⟨h1, h2⟩ => ⟨h1, p, h2⟩
        have ho2 : ∀ (V : World) (p : Regrown), Calls Tryz.prog 116 #[.bool c2] (grow (redrawn V p.d) p.os) fun e w'' => e = .returned (.int .i64 f2) ∧ ∃ p : Regrown, w'' = grow (redrawn V p.d) p.os := fun V p => by
          rw [hf2]; exact (one_calls c2 _).mono fun e w' ⟨h1, h2⟩ => ⟨h1, p, h2⟩
        have s1 : IntKind.i64.wrap (A + f1) = A + f1 := by rw [IntKind.wrap_i64]; omega
        have s2 : IntKind.i64.wrap (B + f2) = B + f2 := by rw [IntKind.wrap_i64]; omega
        have jz : (j : Int) < (n : Int) := by omega
        have mz : (m : Int) < (n : Int) := by omega
        have wj : IntKind.i64.wrap (j : Int) = (j : Int) := by rw [IntKind.wrap_i64]; omega
        have wm : IntKind.i64.wrap (m : Int) = (m : Int) := by rw [IntKind.wrap_i64]; omega
        have HE : Aside (W.cell? ⟨blk, off + j * 2, none⟩ = some (.int .i64 x1) ∧ W.cell? ⟨blk, off + j * 2 + 1, none⟩ = some (.int .i64 x2) ∧ W.cell? ⟨blk, off + m * 2, none⟩ = some (.int .i64 y1) ∧ W.cell? ⟨blk, off + m * 2 + 1, none⟩ = some (.int .i64 y2)) := ⟨e1, e2, e3, e4⟩
        have keep : ∀ (V : World), Below W.heap.size W V → ∀ q v, W.cell? q = some v → ∀ dd os, (grow (redrawn V dd) os).cell? q = some v := fun V hV q v hq => cell_regrown ((hV.cell (block_lt_of_cell hq)).trans hq)
        have KP : Aside _ := keep
        clear hc hTc hTn hj hxv hyv e1 e2 e3 e4 hA hB hc1 hc2 hf1 hf2 keep hd
        go_upto_region 7 with fail
        clear tc
        obtain ⟨_, k0, k1, k2, k3, k4⟩ := K0.out
        have p0 := KP.out wr Bk.out _ _ k0
        have p1 := KP.out wr Bk.out _ _ k1
        have p2 := KP.out wr Bk.out _ _ k2
        have p3 := KP.out wr Bk.out _ _ k3
        have p4 := KP.out wr Bk.out _ _ k4
        have q0 := KP.out wr Bk.out _ _ HR0.out
        have q1 := KP.out wr Bk.out _ _ HE.out.1
        have q2 := KP.out wr Bk.out _ _ HE.out.2.1
        have q3 := KP.out wr Bk.out _ _ HE.out.2.2.1
        have q4 := KP.out wr Bk.out _ _ HE.out.2.2.2
        clear k0 k1 k2 k3 k4
        refine wp_region_quiet_below (by assumption) (by kernel_rfl) ?_
        repeat' (quiet_step (first | with_reducible exact hl1 _ _ | with_reducible exact ho1 _ _))
        all_goals
          refine wpQuiet_nil ?_
          intro _ hw'
          obtain ⟨⟨nq, osq⟩, hw''⟩ := hw'
          subst hw''
        have B1 : Aside (Below W.heap.size W (grow (redrawn wr nq) osq)) := Below.next Bk.out (below_regrown wr nq osq)
        clear p0 p1 p2 p3 p4 q0 q1 q2 q3 q4 Bk
        generalize grow (redrawn wr nq) osq = V at B1 ⊢
        go_upto_region 8 with fail
        obtain ⟨_, k0, k1, k2, k3, k4⟩ := K0.out
        have p0 := KP.out V B1.out _ _ k0
        have p1 := KP.out V B1.out _ _ k1
        have p2 := KP.out V B1.out _ _ k2
        have p3 := KP.out V B1.out _ _ k3
        have p4 := KP.out V B1.out _ _ k4
        have q0 := KP.out V B1.out _ _ HR0.out
        have q1 := KP.out V B1.out _ _ HE.out.1
        have q2 := KP.out V B1.out _ _ HE.out.2.1
        have q3 := KP.out V B1.out _ _ HE.out.2.2.1
        have q4 := KP.out V B1.out _ _ HE.out.2.2.2
        clear k0 k1 k2 k3 k4
        refine wp_region_quiet_below (by assumption) (by kernel_rfl) ?_
        repeat' (quiet_step (first | with_reducible exact hl2 _ _ | with_reducible exact ho2 _ _))
        all_goals
          refine wpQuiet_nil ?_
          intro _ hw'
          obtain ⟨⟨mq, psq⟩, hw''⟩ := hw'
          subst hw''
        have B2 : Aside (Below W.heap.size W (grow (redrawn V mq) psq)) := Below.next B1.out (below_regrown V mq psq)
        clear p0 p1 p2 p3 p4 q0 q1 q2 q3 q4 B1 hl1 hl2 ho1 ho2 KP
        go_wp2_with fail
        go_roundg (3 - (i + 1))
        case measure => omega
        case rel => exact ⟨i + 1, by rw [HA.out], by rw [HB2.out], by go_num, by omega, by omega, B2⟩
      · have hltz : ¬ (i : Int) < 3 := by omega
        obtain rfl : i = 3 := by omega
        obtain ⟨z1, z2⟩ := HAB.out
        go_wp2_with fail
        go_ret
        exact ⟨rfl, Below.next HB.out Bk.out⟩
end Go.Proofs.YtglgmkikegbchaaGreat

/- spec.chosen of median. -/
namespace Go.Proofs.YtglgmkikegbchaaGreat
open Go.RowKit Go.Sort

theorem flagN_decide (p : Prop) [Decidable p] : flagN (decide p) = if p then 1 else 0 := by
  unfold flagN
  by_cases h : p <;> simp [h]
/-- The median, counted. -/
theorem median_counts {μ : It → Int} (d : Array It) (x y z : Nat) : ∃ m s, median (ltBy μ) d x y z 0 = (m, s) ∧ s ≤ 3 ∧ (m = at3 x y z 0 ∨ m = at3 x y z 1 ∨ m = at3 x y z 2) ∧
    countC (fun i => ltBy μ d[at3 x y z i]! d[m]!) 3 ≤ 1 ∧ countC (fun i => ltBy μ d[m]! d[at3 x y z i]!) 3 ≤ 1 := by
  obtain ⟨m, s, e, hs, h⟩ := median_by (μ := μ) d x y z
  refine ⟨m, s, e, hs, ?_, ?_, ?_⟩
  · rcases h with ⟨h, _⟩ | ⟨h, _⟩ | ⟨h, _⟩
    · exact Or.inl h
    · exact Or.inr (Or.inl h)
    · exact Or.inr (Or.inr h)
  · show 0 + flagN (decide (μ d[x]! < μ d[m]!)) + flagN (decide (μ d[y]! < μ d[m]!)) + flagN (decide (μ d[z]! < μ d[m]!)) ≤ 1
    rw [flagN_decide, flagN_decide, flagN_decide]
    rcases h with ⟨rfl, h⟩ | ⟨rfl, h⟩ | ⟨rfl, h⟩ <;> (split <;> split <;> split <;> omega)
  · show 0 + flagN (decide (μ d[m]! < μ d[x]!)) + flagN (decide (μ d[m]! < μ d[y]!)) + flagN (decide (μ d[m]! < μ d[z]!)) ≤ 1
    rw [flagN_decide, flagN_decide, flagN_decide]
    rcases h with ⟨rfl, h⟩ | ⟨rfl, h⟩ | ⟨rfl, h⟩ <;> (split <;> split <;> split <;> omega)

set_option maxHeartbeats 4000000 in
set_option maxRecDepth 1000000 in
theorem chosen_median (a na ra : Option Addr) (cap n ncap rcap : Nat) (d : Array It) (o : Ordr) (x y z : Nat) (w : World) (h : Rd2 w a d) (hn : d.size = n) (hsz : n ≤ 2000) (hs0 : 0 ≤ o.shift) (hs1 : o.shift < 64) (hk3 : o.kind ≠ 3) (hx : x < n) (hy : y < n) (hz : z < n)
    (hN : RdN w na #[(x : Int), (y : Int), (z : Int)]) (hR : RdN w ra #[((median (ltC (cfO o)) d x y z 0).1 : Int), ((median (ltC (cfO o)) d x y z 0).2 : Int)]) :
    Calls Tryz.prog 55 #[.int .i64 10, .slice a n cap, vOrd o, .slice na 3 ncap, .slice ra 2 rcap] w fun e w' => e = .returned (.bool true) ∧ Below w.heap.size w w' := by
  obtain ⟨m, s, e, hs, hm, hA, hB⟩ := median_counts (μ := muO o) d x y z
  rw [← ltC_by o hk3] at e hA hB
  rw [e] at hR
  dsimp only at hR
  obtain ⟨nb, noff, rfl, hnb, hnc⟩ := hN (by simp)
  obtain ⟨rb, roff, rfl, hrb, hrc⟩ := hR (by simp)
  obtain ⟨W, hW⟩ : ∃ W, W = w.alloc (.cells #[.int .i64 o.kind, .int .i64 o.shift, .int .u64 o.m0, .int .u64 o.m1, .int .u64 o.m2] 26) := ⟨_, rfl⟩
  have B0 : Below w.heap.size w W := by rw [hW]; exact below_alloc _ _
  have K0 : BoxK W w.heap.size o.kind o.shift o.m0 o.m1 o.m2 := by rw [hW]; exact boxK_new _ _ _ _ _ _ _
  have hC := middle_calls a nb noff rb roff cap n ncap rcap d o (at3 x y z) m s W (h.keep B0) hn hsz hs0 hs1 (Nat.lt_of_lt_of_le hnb B0.size) (fun i hi => by
    rcases (show i = 0 ∨ i = 1 ∨ i = 2 by omega) with rfl | rfl | rfl
    · exact ⟨hx, (B0.cell (p := ⟨nb, noff + 0, none⟩) hnb).trans (hnc 0 (by simp))⟩
    · exact ⟨hy, (B0.cell (p := ⟨nb, noff + 1, none⟩) hnb).trans (hnc 1 (by simp))⟩
    · exact ⟨hz, (B0.cell (p := ⟨nb, noff + 2, none⟩) hnb).trans (hnc 2 (by simp))⟩) (Nat.lt_of_lt_of_le hrb B0.size) ((B0.cell (p := ⟨rb, roff + 0, none⟩) hrb).trans (hrc 0 (by simp))) ((B0.cell (p := ⟨rb, roff + 1, none⟩) hrb).trans (hrc 1 (by simp))) hm hs hA hB
  have HB : Aside _ := B0
  clear e hs hm hA hB hN hR hnc hrc hnb hrb h hn hsz hs0 hs1 hk3 hx hy hz
  obtain ⟨k, sh, m0, m1, m2⟩ := o
  obtain ⟨_, k0, k1, k2, k3, k4⟩ := K0
  clear B0
  have HW : Aside _ := hW
  rw [hW] at k0 k1 k2 k3 k4 hC
  clear hW
  go_enter Tryz.func55, Tryz.ntmps55
  go_wp2_with fail
  refine hC.mono ?_
  rintro e w' ⟨rfl, hb⟩
  rw [← HW.out] at hb
  have B1 := Below.next HB.out hb
  clear hb hC
  go_wp2_with fail
  go_ret
  exact ⟨rfl, B1⟩
end Go.Proofs.YtglgmkikegbchaaGreat

/- spec.chosen of medianAdjacent. -/
namespace Go.Proofs.YtglgmkikegbchaaGreat
open Go.RowKit Go.Sort

set_option maxHeartbeats 4000000 in
set_option maxRecDepth 1000000 in
theorem chosen_medianAdjacent (a na ra : Option Addr) (cap n ncap rcap : Nat) (d : Array It) (o : Ordr) (x : Nat) (w : World) (h : Rd2 w a d) (hn : d.size = n) (hsz : n ≤ 2000) (hs0 : 0 ≤ o.shift) (hs1 : o.shift < 64) (hk3 : o.kind ≠ 3) (hx : 1 ≤ x) (hx2 : x + 1 < n)
    (hN : RdN w na #[(x : Int)]) (hR : RdN w ra #[((medianAdjacent (ltC (cfO o)) d x 0).1 : Int), ((medianAdjacent (ltC (cfO o)) d x 0).2 : Int)]) :
    Calls Tryz.prog 55 #[.int .i64 11, .slice a n cap, vOrd o, .slice na 1 ncap, .slice ra 2 rcap] w fun e w' => e = .returned (.bool true) ∧ Below w.heap.size w w' := by
  obtain ⟨m, s, e, hs, hm, hA, hB⟩ := median_counts (μ := muO o) d (x - 1) x (x + 1)
  rw [← ltC_by o hk3] at e hA hB
  unfold medianAdjacent at hR
  rw [e] at hR
  dsimp only at hR
  obtain ⟨nb, noff, rfl, hnb, hnc⟩ := hN (by simp)
  obtain ⟨rb, roff, rfl, hrb, hrc⟩ := hR (by simp)
  obtain ⟨W, hW⟩ : ∃ W, W = w.alloc (.cells #[.int .i64 o.kind, .int .i64 o.shift, .int .u64 o.m0, .int .u64 o.m1, .int .u64 o.m2] 26) := ⟨_, rfl⟩
  have B0 : Below w.heap.size w W := by rw [hW]; exact below_alloc _ _
  have K0 : BoxK W w.heap.size o.kind o.shift o.m0 o.m1 o.m2 := by rw [hW]; exact boxK_new _ _ _ _ _ _ _
  have n0 := (B0.cell (p := ⟨nb, noff + 0, none⟩) hnb).trans (hnc 0 (by simp))
  simp at n0
  have hC : ∀ V, Below W.heap.size W V → ∀ b, V.cell? ⟨b, 0, none⟩ = some (.int .i64 ((x : Int) - 1)) → V.cell? ⟨b, 1, none⟩ = some (.int .i64 (x : Int)) → V.cell? ⟨b, 2, none⟩ = some (.int .i64 ((x : Int) + 1)) →
      Calls Tryz.prog 118 #[.slice a n cap, vOrd o, .slice (some ⟨b, 0, none⟩) 3 3, .slice (some ⟨rb, roff, none⟩) 2 rcap] V fun e w' => e = .returned (.bool true) ∧ Below V.heap.size V w' := fun V hV b v0 v1 v2 => by
    have B1 := Below.next B0 hV
    have hb : b < V.heap.size := block_lt_of_cell (a := ⟨b, 0, none⟩) v0
    exact middle_calls a b 0 rb roff cap n 3 rcap d o (at3 (x - 1) x (x + 1)) m s V (h.keep B1) hn hsz hs0 hs1 hb (fun i hi => by
      rcases (show i = 0 ∨ i = 1 ∨ i = 2 by omega) with rfl | rfl | rfl
      · exact ⟨by show x - 1 < n; omega, v0.trans (congrArg (fun t => some (Value.int .i64 t)) (by show (x : Int) - 1 = ((x - 1 : Nat) : Int); omega))⟩
      · exact ⟨by show x < n; omega, v1⟩
      · exact ⟨hx2, v2.trans (congrArg (fun t => some (Value.int .i64 t)) (by show (x : Int) + 1 = ((x + 1 : Nat) : Int); omega))⟩) (Nat.lt_of_lt_of_le hrb B1.size) ((B1.cell (p := ⟨rb, roff + 0, none⟩) hrb).trans (hrc 0 (by simp))) ((B1.cell (p := ⟨rb, roff + 1, none⟩) hrb).trans (hrc 1 (by simp))) hm hs hA hB
  have r3 := row3_new W ((x : Int) - 1) (x : Int) ((x : Int) + 1) 3
  have HC : Aside _ := hC (W.alloc (.cells #[.int .i64 ((x : Int) - 1), .int .i64 (x : Int), .int .i64 ((x : Int) + 1)] 3)).drew (below_drewN (below_alloc W _) 1) W.heap.size ((World.cell?_drewN _ 1 _).trans r3.1) ((World.cell?_drewN _ 1 _).trans r3.2.1) ((World.cell?_drewN _ 1 _).trans r3.2.2)
  have BA : Aside (Below W.heap.size W (W.alloc (.cells #[.int .i64 ((x : Int) - 1), .int .i64 (x : Int), .int .i64 ((x : Int) + 1)] 3)).drew) := below_drewN (below_alloc W _) 1
  clear r3
  have HB : Aside _ := B0
  have x1 : IntKind.i64.wrap ((x : Int) - 1) = (x : Int) - 1 := by rw [IntKind.wrap_i64]; omega
  have x2 : IntKind.i64.wrap ((x : Int) + 1) = (x : Int) + 1 := by rw [IntKind.wrap_i64]; omega
  clear e hs hm hA hB hN hR hnc hrc hnb hrb h hn hsz hs0 hs1 hk3 hC
  obtain ⟨k, sh, m0, m1, m2⟩ := o
  obtain ⟨_, k0, k1, k2, k3, k4⟩ := K0
  clear B0
  go_enter Tryz.func55, Tryz.ntmps55
  go_upto_region 15 with fail
  rw [← hW]
  clear hW
  go_region_held (fun w' => w'.cell? ⟨nb, noff, none⟩ = some (.int .i64 (x : Int)) ∧ w'.cell? ⟨w.heap.size, 0, none⟩ = some (.int .i64 k) ∧ w'.cell? ⟨w.heap.size, 1, none⟩ = some (.int .i64 sh) ∧ w'.cell? ⟨w.heap.size, 2, none⟩ = some (.int .u64 m0) ∧ w'.cell? ⟨w.heap.size, 3, none⟩ = some (.int .u64 m1) ∧ w'.cell? ⟨w.heap.size, 4, none⟩ = some (.int .u64 m2)) (go_keep)
    (first | (go_at_call 118; refine Calls.mono HC.out ?_; rintro e w' ⟨rfl, hb⟩; have hk := fun p v (h : World.cell? _ p = some v) => (hb.cell (block_lt_of_cell h)).trans h))
  have B1 := Below.next (Below.next HB.out BA.out) hb
  clear hb hk
  go_wp2_with fail
  go_ret
  exact ⟨rfl, B1⟩
end Go.Proofs.YtglgmkikegbchaaGreat
