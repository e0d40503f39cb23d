/- spec.Ready: of two sorted neighbours. -/
import Derived.Test.YtglgmkikegbchaaGreatGBS
import Derived.Test.YtglgmkikegbchaaGreatGSOrd
import Derived.Test.YtglgmkikegbchaaGreatGMu
import Derived.Deep.RegionHeld
namespace Go.Proofs.YtglgmkikegbchaaGreat
open Go.RowKit Go.Sort

theorem sorted_of_asc {μ : It → Int} {d : Array It} {x y : Nat} (hy : y ≤ d.size) (h : ascB (ltBy μ) (d.extract x y) = true) : SortedIn (ltBy μ) x y d := by
  have h' := ascB_true.1 h
  have step : ∀ i, x ≤ i → i + 1 < y → μ d[i]! ≤ μ d[i + 1]! := fun i h1 h2 => by
    have := h' (i - x) (by rw [Array.size_extract]; omega)
    rw [ext_get d x y _ hy (by omega), ext_get d x y _ hy (by omega), show x + (i - x + 1) = i + 1 by omega, show x + (i - x) = i by omega] at this
    simpa [ltBy] using this
  have all : ∀ n i, x ≤ i → i + n < y → μ d[i]! ≤ μ d[i + n]! := by
    intro n
    induction n with
    | zero => intro i _ _; exact Int.le_refl _
    | succ n ih => intro i h1 h2; exact Int.le_trans (ih i h1 (by omega)) (step (i + n) (by omega) (by omega))
  intro i j h1 h2 h3
  have := all (j - i) i h1 (by omega)
  rw [show i + (j - i) = j by omega] at this
  simpa [ltBy] using this

set_option maxHeartbeats 4000000 in
set_option maxRecDepth 1000000 in
theorem ready_symMerge (a na : Option Addr) (cap n ncap : Nat) (d : Array It) (o : Ordr) (x y z : Nat) (w : World) (h : Arg w a cap d) (hn : d.size = n) (hsz : n ≤ 2000) (hs0 : 0 ≤ o.shift) (hs1 : o.shift < 64) (hN : RdN w na #[(x : Int), (y : Int), (z : Int)]) (h1 : x < y) (h2 : y < z) (h3 : z ≤ n) :
    Calls Tryz.prog 34 #[.int .i64 15, .slice a n cap, vOrd o, .slice na 3 ncap] w fun e w' => e = .returned (.bool (ascB (ltC (cfO o)) (d.extract x y) && ascB (ltC (cfO o)) (d.extract y z))) ∧ Below w.heap.size w w' := by
  have hle := h.le
  obtain ⟨blk, off, rfl, hbl, _⟩ := h.rd (by omega)
  obtain ⟨nb, noff, rfl, hnb, hnc⟩ := hN (by simp)
  obtain ⟨R1, hR1⟩ : ∃ R, R = ascB (ltC (cfO o)) (d.extract x y) := ⟨_, rfl⟩
  obtain ⟨R2, hR2⟩ : ∃ R, R = ascB (ltC (cfO o)) (d.extract y z) := ⟨_, rfl⟩
  rw [← hR1, ← hR2]
  have A1 : ∀ W, Below w.heap.size w W → Calls Tryz.prog 49 #[.slice (some ⟨blk, off + x * 2, none⟩) (y - x) (cap - x), vOrd o] W fun e w' => e = .returned (.bool R1) ∧ Below W.heap.size W w' := fun W hb => by
    rw [hR1]; exact asc_calls _ (cap - x) (y - x) (d.extract x y) o W ((Rd2.part x y (by omega) h.rd).keep hb) (by rw [Array.size_extract]; omega) (by omega) hs0 hs1
  have A2 : ∀ W, Below w.heap.size w W → Calls Tryz.prog 49 #[.slice (some ⟨blk, off + y * 2, none⟩) (z - y) (cap - y), vOrd o] W fun e w' => e = .returned (.bool R2) ∧ Below W.heap.size W w' := fun W hb => by
    rw [hR2]; exact asc_calls _ (cap - y) (z - y) (d.extract y z) o W ((Rd2.part y z (by omega) h.rd).keep hb) (by rw [Array.size_extract]; omega) (by omega) hs0 hs1
  clear hR1 hR2 h hN hs0 hs1
  obtain ⟨k, s, m0, m1, m2⟩ := o
  obtain ⟨U, hU⟩ : ∃ U, U = w.alloc (.cells #[.int .i64 k, .int .i64 s, .int .u64 m0, .int .u64 m1, .int .u64 m2] 26) := ⟨_, rfl⟩
  have BU : Below w.heap.size w U := by rw [hU]; exact below_alloc _ _
  have KU : BoxK U w.heap.size k s m0 m1 m2 := by rw [hU]; exact boxK_new _ _ _ _ _ _ _
  have n0 := (BU.cell (p := ⟨nb, noff + 0, none⟩) hnb).trans (hnc 0 (by simp))
  have n1 := (BU.cell (p := ⟨nb, noff + 1, none⟩) hnb).trans (hnc 1 (by simp))
  have n2 := (BU.cell (p := ⟨nb, noff + 2, none⟩) hnb).trans (hnc 2 (by simp))
  simp at n0 n1 n2
  have q0 := cell_regrown n0
  have q1 := cell_regrown n1
  have q2 := cell_regrown n2
  obtain ⟨_, k0, k1, k2, k3, k4⟩ := KU
  have p0 := cell_regrown k0
  have p1 := cell_regrown k1
  have p2 := cell_regrown k2
  have p3 := cell_regrown k3
  have p4 := cell_regrown k4
  have C1 : ∀ p : Regrown, Calls Tryz.prog 49 #[.slice (some ⟨blk, off + x * 2, none⟩) (y - x) (cap - x), .agg #[.int .i64 k, .int .i64 s, .int .u64 m0, .int .u64 m1, .int .u64 m2]] (grow (redrawn U p.d) p.os) fun e w'' => e = .returned (.bool R1) ∧ ∃ p : Regrown, w'' = grow (redrawn U p.d) p.os := fun p => Calls.regrown_of (A1 _ (Below.next BU (below_regrown _ _ _)))
  have C2 : ∀ p : Regrown, Calls Tryz.prog 49 #[.slice (some ⟨blk, off + y * 2, none⟩) (z - y) (cap - y), .agg #[.int .i64 k, .int .i64 s, .int .u64 m0, .int .u64 m1, .int .u64 m2]] (grow (redrawn U p.d) p.os) fun e w'' => e = .returned (.bool R2) ∧ ∃ p : Regrown, w'' = grow (redrawn U p.d) p.os := fun p => Calls.regrown_of (A2 _ (Below.next BU (below_regrown _ _ _)))
  have B0 : Aside (Below w.heap.size w U) := BU
  have AB : Aside (U.cell? ⟨nb, noff, none⟩ = some (.int .i64 (x : Int)) ∧ U.cell? ⟨nb, noff + 1, none⟩ = some (.int .i64 (y : Int)) ∧ U.cell? ⟨nb, noff + 2, none⟩ = some (.int .i64 (z : Int)) ∧ U.cell? ⟨w.heap.size, 0, none⟩ = some (.int .i64 k) ∧ U.cell? ⟨w.heap.size, 1, none⟩ = some (.int .i64 s) ∧ U.cell? ⟨w.heap.size, 2, none⟩ = some (.int .u64 m0) ∧ U.cell? ⟨w.heap.size, 3, none⟩ = some (.int .u64 m1) ∧ U.cell? ⟨w.heap.size, 4, none⟩ = some (.int .u64 m2)) := ⟨n0, n1, n2, k0, k1, k2, k3, k4⟩
  have D1 : ∀ W, Below U.heap.size U W → Calls Tryz.prog 49 #[.slice (some ⟨blk, off + x * 2, none⟩) (y - x) (cap - x), .agg #[.int .i64 k, .int .i64 s, .int .u64 m0, .int .u64 m1, .int .u64 m2]] W fun e w' => e = .returned (.bool R1) ∧ Below W.heap.size W w' := fun W hW => A1 W (Below.next BU hW)
  have mixed : Tryz.prog.follows .mixedOrders = true := by kernel_rfl
  have wX : IntKind.i64.wrap (x : Int) = (x : Int) := by rw [IntKind.wrap_i64]; omega
  have wY : IntKind.i64.wrap (y : Int) = (y : Int) := by rw [IntKind.wrap_i64]; omega
  have wZ : IntKind.i64.wrap (z : Int) = (z : Int) := by rw [IntKind.wrap_i64]; omega
  have oX : (x : Int) ≤ (y : Int) := by omega
  have oY : (y : Int) ≤ (z : Int) := by omega
  have oA : (y : Int) ≤ (cap : Int) := by omega
  have hcx : ¬ cap = x := by omega
  have hcy : ¬ cap = y := by omega
  have oB : (z : Int) ≤ (cap : Int) := by omega
  clear n0 n1 n2 A1 A2 BU k0 k1 k2 k3 k4 hnc hnb hbl
  cases R1 with
  | false =>
    rw [Bool.false_and]
    go_enter Tryz.func34, Tryz.ntmps34
    go_upto_region 21 with fail
    rw [← hU]
    clear hU
    clear AB D1
    refine wp_region_quiet_below (by assumption) (by kernel_rfl) ?_
    iterate 9 (quiet_step (with_reducible exact C1 _))
    refine wpQuiet_step (fun K hK => ?_)
    go_simp
    apply Exists.intro
    refine ⟨fun _ => ?_, ?_⟩
    · exact C1 _
    clear C1 C2 p0 p1 p2 p3 p4 q0 q1 q2 wX wY wZ oX oY oA oB hcx hcy
    generalize hA : ({ tmps := _, defers := _ } : Act) = A
    refine hK _ ?_
    clear hK K
    iterate 13
      refine wpQuiet_step (fun K hK => ?_)
      subst hA
      go_simp
      generalize hA : ({ tmps := _, defers := _ } : Act) = A
      refine hK _ ?_
      clear hK K
    refine wpQuiet_nil ?_
    subst hA
    intro _ hw'
    obtain ⟨⟨nq, osq⟩, hw''⟩ := hw'
    subst hw''
    go_wp2_with fail
    go_ret
    exact ⟨rfl, Below.next B0.out (below_regrown _ _ _)⟩
  | true =>
    rw [Bool.true_and]
    clear AB D1
    go_enter Tryz.func34, Tryz.ntmps34
    go_upto_region 21 with fail
    rw [← hU]
    clear hU
    refine wp_region_quiet_below (by assumption) (by kernel_rfl) ?_
    iterate 11 (quiet_step (with_reducible exact C1 _))
    repeat' (quiet_step (with_reducible exact C2 _))
    all_goals
      refine wpQuiet_nil ?_
      intro _ hw'
      obtain ⟨⟨nq, osq⟩, hw''⟩ := hw'
      subst hw''
      clear C1 C2 p0 p1 p2 p3 p4 q0 q1 q2 wX wY wZ oX oY oA oB
      go_wp2_with fail
    all_goals
      go_ret
      exact ⟨rfl, Below.next B0.out (below_regrown _ _ _)⟩
end Go.Proofs.YtglgmkikegbchaaGreat
