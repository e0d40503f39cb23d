/- spec.chosen of order2. -/
import Derived.Test.YtglgmkikegbchaaGreatSOrd
import Derived.Test.YtglgmkikegbchaaGreatzNums
import Derived.Test.YtglgmkikegbchaaGreatzDoes
namespace Go.Proofs.YtglgmkikegbchaaGreat
open Go.RowKit Go.Sort

theorem row3_new (w : World) (x y z : Int) (t : TypeId) : (w.alloc (.cells #[.int .i64 x, .int .i64 y, .int .i64 z] t)).cell? ⟨w.heap.size, 0, none⟩ = some (.int .i64 x) ∧ (w.alloc (.cells #[.int .i64 x, .int .i64 y, .int .i64 z] t)).cell? ⟨w.heap.size, 1, none⟩ = some (.int .i64 y) ∧
    (w.alloc (.cells #[.int .i64 x, .int .i64 y, .int .i64 z] t)).cell? ⟨w.heap.size, 2, none⟩ = some (.int .i64 z) :=
  ⟨cell_at (heap_alloc_new w _) rfl, cell_at (heap_alloc_new w _) rfl, cell_at (heap_alloc_new w _) rfl⟩

set_option maxHeartbeats 4000000 in
set_option maxRecDepth 1000000 in
theorem chosen_order2 (a na ra : Option Addr) (cap n ncap rcap : Nat) (d : Array It) (o : Ordr) (x y : Nat) (w : World) (h : Rd2 w a d) (hn : d.size = n) (hsz : n ≤ 2000) (hs0 : 0 ≤ o.shift) (hs1 : o.shift < 64) (hx : x < n) (hy : y < n)
    (hN : RdN w na #[(x : Int), (y : Int)]) (hR : RdN w ra #[((order2 (ltC (cfO o)) d x y 0).1 : Int), ((order2 (ltC (cfO o)) d x y 0).2.1 : Int), ((order2 (ltC (cfO o)) d x y 0).2.2 : Int)]) :
    Calls Tryz.prog 55 #[.int .i64 9, .slice a n cap, vOrd o, .slice na 2 ncap, .slice ra 3 rcap] w fun e w' => e = .returned (.bool true) ∧ Below w.heap.size w w' := by
  have LC := fun x y W => sless_calls o hs0 hs1 x y W
  generalize ltC (cfO o) = lt at LC hR
  clear hs0 hs1
  obtain ⟨k, s, m0, m1, m2⟩ := o
  obtain ⟨W, hW⟩ : ∃ W, W = w.alloc (.cells #[.int .i64 k, .int .i64 s, .int .u64 m0, .int .u64 m1, .int .u64 m2] 26) := ⟨_, rfl⟩
  have B0 : Below w.heap.size w W := by rw [hW]; exact below_alloc _ _
  have K0 : BoxK W w.heap.size k s m0 m1 m2 := by rw [hW]; exact boxK_new _ _ _ _ _ _ _
  obtain ⟨blk, off, rfl, hbl, hc⟩ := h (by omega)
  obtain ⟨nb, noff, rfl, hnb, hnc⟩ := hN (by simp)
  obtain ⟨rb, roff, rfl, hrb, hrc⟩ := hR (by simp)
  obtain ⟨⟨x1, x2⟩, hxv⟩ : ∃ v : It, v = d[y]! := ⟨_, rfl⟩
  obtain ⟨⟨y1, y2⟩, hyv⟩ : ∃ v : It, v = d[x]! := ⟨_, rfl⟩
  obtain ⟨c, hcc⟩ : ∃ c, c = lt (x1, x2) (y1, y2) := ⟨_, rfl⟩
  obtain ⟨r, hr⟩ : ∃ r, r = order2 lt d x y 0 := ⟨_, rfl⟩
  have hr2 : r = if c = true then (y, x, 0 + 1) else (x, y, 0) := by rw [hr, order2, ← hxv, ← hyv, ← hcc]
  rw [← hr] at hrc
  have n0 := (B0.cell (p := ⟨nb, noff + 0, none⟩) hnb).trans (hnc 0 (by simp))
  have n1 := (B0.cell (p := ⟨nb, noff + 1, none⟩) hnb).trans (hnc 1 (by simp))
  have r0 := (B0.cell (p := ⟨rb, roff + 0, none⟩) hrb).trans (hrc 0 (by simp))
  have r1 := (B0.cell (p := ⟨rb, roff + 1, none⟩) hrb).trans (hrc 1 (by simp))
  have r2 := (B0.cell (p := ⟨rb, roff + 2, none⟩) hrb).trans (hrc 2 (by simp))
  have c1 := (B0.cell (p := ⟨blk, off + y * 2, none⟩) hbl).trans (hc y (by omega)).1
  have c2 := (B0.cell (p := ⟨blk, off + y * 2 + 1, none⟩) hbl).trans (hc y (by omega)).2
  have c3 := (B0.cell (p := ⟨blk, off + x * 2, none⟩) hbl).trans (hc x (by omega)).1
  have c4 := (B0.cell (p := ⟨blk, off + x * 2 + 1, none⟩) hbl).trans (hc x (by omega)).2
  rw [← hxv] at c1 c2
  rw [← hyv] at c3 c4
  simp at n0 n1 r0 r1 r2
  dsimp only at c1 c2 c3 c4
  obtain ⟨_, k0, k1, k2, k3, k4⟩ := K0
  have hl : ∀ p : Regrown, Calls Tryz.prog 47 #[.agg #[.int .i64 k, .int .i64 s, .int .u64 m0, .int .u64 m1, .int .u64 m2], .agg #[.int .i64 x1, .int .i64 x2], .agg #[.int .i64 y1, .int .i64 y2]] (grow (redrawn W p.d) p.os) fun e w'' => e = .returned (.bool c) ∧ ∃ p : Regrown, w'' = grow (redrawn W p.d) p.os := fun p => by
    rw [hcc]; exact Calls.regrown_of (LC (x1, x2) (y1, y2) _)
  have lx : (x : Int) < (n : Int) := by omega
  have ly : (y : Int) < (n : Int) := by omega
  have wx : IntKind.i64.wrap (x : Int) = (x : Int) := by rw [IntKind.wrap_i64]; omega
  have wy : IntKind.i64.wrap (y : Int) = (y : Int) := by rw [IntKind.wrap_i64]; omega
  have p0 := cell_regrown k0
  have p1 := cell_regrown k1
  have p2 := cell_regrown k2
  have p3 := cell_regrown k3
  have p4 := cell_regrown k4
  have q1 := cell_regrown c1
  have q2 := cell_regrown c2
  have q3 := cell_regrown c3
  have q4 := cell_regrown c4
  have a0 := cell_regrown n0
  have a1 := cell_regrown n1
  have HF : Aside (W.cell? ⟨rb, roff, none⟩ = some (.int .i64 r.1) ∧ W.cell? ⟨rb, roff + 1, none⟩ = some (.int .i64 r.2.1) ∧ W.cell? ⟨rb, roff + 2, none⟩ = some (.int .i64 r.2.2)) := ⟨r0, r1, r2⟩
  have HC : Aside (r = if c = true then (y, x, 0 + 1) else (x, y, 0)) := hr2
  have HB : Aside (Below w.heap.size w W) := B0
  have HW : Aside _ := hW
  have mixed : Tryz.prog.follows .mixedOrders = true := by kernel_rfl
  clear n0 n1 r0 r1 r2 c1 c2 c3 c4 hc hnc hrc hbl hnb hrb hxv hyv hcc hr hr2 k0 k1 k2 k3 k4 B0 LC hN hR h hx hy hn
  go_enter Tryz.func55, Tryz.ntmps55
  go_upto_region 8 with fail
  rw [← hW]
  clear hW
  refine wp_region_quiet_below (by assumption) (by kernel_rfl) ?_
  repeat' (quiet_step (with_reducible exact hl _))
  all_goals
    refine wpQuiet_nil ?_
    intro _ hw'
    obtain ⟨⟨nq, osq⟩, hw''⟩ := hw'
    subst hw''
  have B1 : Aside _ := Below.next HB.out (below_regrown W nq osq)
  have b0 := a0 nq osq
  have b1 := a1 nq osq
  have HF1 : Aside _ := And.intro (cell_regrown HF.out.1 nq osq) (And.intro (cell_regrown HF.out.2.1 nq osq) (cell_regrown HF.out.2.2 nq osq))
  clear hl p0 p1 p2 p3 p4 q1 q2 q3 q4 a0 a1 HF HB HW
  generalize grow (redrawn W nq) osq = V at b0 b1 HF1 B1 ⊢
  obtain ⟨v0, v1, v2⟩ := row3_new V x y 0 3
  have BV : Below V.heap.size V (V.alloc (.cells #[.int .i64 x, .int .i64 y, .int .i64 0] 3)).drew := below_drewN (below_alloc _ _) 1
  replace v0 := (World.cell?_drewN _ 1 ⟨V.heap.size, 0, none⟩).trans v0
  replace v1 := (World.cell?_drewN _ 1 ⟨V.heap.size, 1, none⟩).trans v1
  replace v2 := (World.cell?_drewN _ 1 ⟨V.heap.size, 2, none⟩).trans v2
  have BV' : Aside _ := BV
  have v0' : Aside _ := v0
  have v1' : Aside _ := v1
  have v2' : Aside _ := v2
  clear BV v0 v1 v2
  go_wp2_with fail
  go_region
  obtain ⟨X, hX⟩ : ∃ X, X = (V.alloc (.cells #[.int .i64 x, .int .i64 y, .int .i64 0] 3)).drew := ⟨_, rfl⟩
  rw [← hX]
  have BX : Aside (Below w.heap.size w X) := by show Below _ _ _; rw [hX]; exact Below.next B1.out BV'.out
  have hv : Aside (X.cell? ⟨V.heap.size, 0, none⟩ = some (.int .i64 x) ∧ X.cell? ⟨V.heap.size, 1, none⟩ = some (.int .i64 y) ∧ X.cell? ⟨V.heap.size, 2, none⟩ = some (.int .i64 0)) := by show _ ∧ _ ∧ _; rw [hX]; exact ⟨v0'.out, v1'.out, v2'.out⟩
  have hk : ∀ p v, V.cell? p = some v → X.cell? p = some v := fun p v h => by rw [hX]; exact (BV'.out.cell (block_lt_of_cell h)).trans h
  have HF2 : Aside _ := And.intro (hk _ _ HF1.out.1) (And.intro (hk _ _ HF1.out.2.1) (hk _ _ HF1.out.2.2))
  have e0 := hk _ _ b0
  have e1 := hk _ _ b1
  generalize V.heap.size = WB at hv ⊢
  clear hX hk v0' v1' v2' BV' b0 b1 HF1 B1
  cases c with
  | false =>
    have hr : r = (x, y, 0) := HC.out
    subst hr
    obtain ⟨v0, v1, v2⟩ := hv.out
    clear hv e0 e1
    have f0 := fun q => (World.cell?_drewN X q ⟨rb, roff, none⟩).trans HF2.out.1
    have f1 := fun q => (World.cell?_drewN X q ⟨rb, roff + 1, none⟩).trans HF2.out.2.1
    have f2 := fun q => (World.cell?_drewN X q ⟨rb, roff + 2, none⟩).trans HF2.out.2.2
    have g0 := fun q => (World.cell?_drewN X q ⟨WB, 0, none⟩).trans v0
    have g1 := fun q => (World.cell?_drewN X q ⟨WB, 1, none⟩).trans v1
    have g2 := fun q => (World.cell?_drewN X q ⟨WB, 2, none⟩).trans v2
    clear v0 v1 v2
    go_wp2_with fail
    go_quiet (fail)
    go_wp2_with fail
    go_ret
    exact ⟨rfl, below_drewN BX.out _⟩
  | true =>
    have hr : r = (y, x, 0 + 1) := HC.out
    subst hr
    have BV' : Aside _ := below_drewN (below_alloc X (.cells #[.int .i64 y, .int .i64 x, .int .i64 1] 3)) 1
    have hw' : Aside _ := row3_new X y x 1 3
    clear hv
    go_wp2_with fail
    go_region
    obtain ⟨Y, hY⟩ : ∃ Y, Y = (X.alloc (.cells #[.int .i64 y, .int .i64 x, .int .i64 1] 3)).drew := ⟨_, rfl⟩
    rw [← hY]
    obtain ⟨v0, v1, v2⟩ := hw'.out
    replace v0 : Y.cell? ⟨X.heap.size, 0, none⟩ = some (.int .i64 y) := by rw [hY]; exact (World.cell?_drewN _ 1 _).trans v0
    replace v1 : Y.cell? ⟨X.heap.size, 1, none⟩ = some (.int .i64 x) := by rw [hY]; exact (World.cell?_drewN _ 1 _).trans v1
    replace v2 : Y.cell? ⟨X.heap.size, 2, none⟩ = some (.int .i64 1) := by rw [hY]; exact (World.cell?_drewN _ 1 _).trans v2
    have hk : ∀ p v, X.cell? p = some v → Y.cell? p = some v := fun p v h => by rw [hY]; exact (BV'.out.cell (block_lt_of_cell h)).trans h
    have HF3 : Aside _ := And.intro (hk _ _ HF2.out.1) (And.intro (hk _ _ HF2.out.2.1) (hk _ _ HF2.out.2.2))
    have BY : Aside (Below w.heap.size w Y) := by show Below _ _ _; rw [hY]; exact Below.next BX.out BV'.out
    generalize X.heap.size = WB at v0 v1 v2 ⊢
    clear hY hk hw' BV' HF2 BX e0 e1
    have f0 := fun q => (World.cell?_drewN Y q ⟨rb, roff, none⟩).trans HF3.out.1
    have f1 := fun q => (World.cell?_drewN Y q ⟨rb, roff + 1, none⟩).trans HF3.out.2.1
    have f2 := fun q => (World.cell?_drewN Y q ⟨rb, roff + 2, none⟩).trans HF3.out.2.2
    have g0 := fun q => (World.cell?_drewN Y q ⟨WB, 0, none⟩).trans v0
    have g1 := fun q => (World.cell?_drewN Y q ⟨WB, 1, none⟩).trans v1
    have g2 := fun q => (World.cell?_drewN Y q ⟨WB, 2, none⟩).trans v2
    clear v0 v1 v2
    go_wp2_with fail
    go_quiet (fail)
    go_wp2_with fail
    go_ret
    exact ⟨rfl, below_drewN BY.out _⟩
end Go.Proofs.YtglgmkikegbchaaGreat
