/- spec.Ready: of a part in front of which nothing of it belongs. -/
import Derived.Test.YtglgmkikegbchaaGreatzArg
import Derived.Test.YtglgmkikegbchaaGreatzDoes
import Derived.Test.YtglgmkikegbchaaGreatSOrd
import Derived.Test.YtglgmkikegbchaaGreatMu
namespace Go.Proofs.YtglgmkikegbchaaGreat
open Go.RowKit Go.Sort

/-- Whether nothing of a part stands ahead of an element. -/
def noneB (lt : It → It → Bool) (d : Array It) (x y p : Nat) : Bool := decide (∀ i, i < y - x → lt d[x + i]! d[p]! = false)
theorem noneB_true {lt : It → It → Bool} {d : Array It} {x y p : Nat} : noneB lt d x y p = true ↔ ∀ i, i < y - x → lt d[x + i]! d[p]! = false := decide_eq_true_iff

theorem asc_sorted {μ : It → Int} {d : Array It} {A B : Nat} (hB : B ≤ d.size) (h : SortedIn (ltBy μ) A B d) : ascB (ltBy μ) (d.extract A B) = true := by
  rw [ascB_true]
  intro i hi
  rw [Array.size_extract] at hi
  rw [ext_get d A B (i + 1) hB (by omega), ext_get d A B i hB (by omega)]
  exact h (A + i) (A + (i + 1)) (by omega) (by omega) (by omega)

set_option maxHeartbeats 4000000 in
set_option maxRecDepth 1000000 in
theorem ready_partitionEqual (a na : Option Addr) (cap n ncap : Nat) (d : Array It) (o : Ordr) (x y z : Nat) (w : World) (h : Arg w a cap d) (hn : d.size = n) (hsz : n ≤ 2000) (hs0 : 0 ≤ o.shift) (hs1 : o.shift < 64) (hN : RdN w na #[(x : Int), (y : Int), (z : Int)]) (h1 : x ≤ y) (h2 : y ≤ n) (h3 : x ≤ z) (h4 : z < y) :
    Calls Tryz.prog 34 #[.int .i64 5, .slice a n cap, vOrd o, .slice na 3 ncap] w fun e w' => e = .returned (.bool (noneB (ltC (cfO o)) d x y z)) ∧ Below w.heap.size w w' := by
  have hle := h.le
  have LC := fun x y W => sless_calls o hs0 hs1 x y W
  obtain ⟨blk, off, rfl, hbl, hc⟩ := h.rd (by omega)
  obtain ⟨nb, noff, rfl, hnb, hnc⟩ := hN (by simp)
  obtain ⟨R, hR⟩ : ∃ R, R = noneB (ltC (cfO o)) d x y z := ⟨_, rfl⟩
  rw [← hR]
  have HR : Aside (R = true ↔ ∀ i, i < y - x → ltC (cfO o) d[x + i]! d[z]! = false) := by show _ ↔ _; rw [hR]; exact noneB_true
  generalize ltC (cfO o) = lt at LC HR
  have HC : Aside (∀ i, i < d.size → w.cell? ⟨blk, off + i * 2, none⟩ = some (.int .i64 d[i]!.1) ∧ w.cell? ⟨blk, off + i * 2 + 1, none⟩ = some (.int .i64 d[i]!.2)) := hc
  have HNC : Aside (∀ i, i < 3 → w.cell? ⟨nb, noff + i, none⟩ = some (.int .i64 (#[(x : Int), (y : Int), (z : Int)][i]!))) := hnc
  have HD : Aside (d.size = n) := hn
  have m0z : w.cell? ⟨nb, noff, none⟩ = some (.int .i64 (x : Int)) := hnc 0 (by simp)
  have m1z : w.cell? ⟨nb, noff + 1, none⟩ = some (.int .i64 (y : Int)) := hnc 1 (by simp)
  have m2z : w.cell? ⟨nb, noff + 2, none⟩ = some (.int .i64 (z : Int)) := hnc 2 (by simp)
  have hcx : ¬ cap = x := by omega
  have hyc : y ≤ cap := by omega
  clear hR h hN hs0 hs1 hc hnc hn
  obtain ⟨k, s, m0, m1, m2⟩ := o
  obtain ⟨U, hU⟩ : ∃ U, U = w.alloc (.cells #[.int .i64 k, .int .i64 s, .int .u64 m0, .int .u64 m1, .int .u64 m2] 26) := ⟨_, rfl⟩
  have BU : Below w.heap.size w U := by rw [hU]; exact below_alloc _ _
  have KU : Aside (BoxK U w.heap.size k s m0 m1 m2) := by show BoxK _ _ _ _ _ _ _; rw [hU]; exact boxK_new _ _ _ _ _ _ _
  have n0 := (BU.cell (p := ⟨nb, noff, none⟩) hnb).trans m0z
  have n1 := (BU.cell (p := ⟨nb, noff + 1, none⟩) hnb).trans m1z
  have B0 : Aside (Below w.heap.size w U) := BU
  have wX : IntKind.i64.wrap (x : Int) = (x : Int) := by rw [IntKind.wrap_i64]; omega
  have wY : IntKind.i64.wrap (y : Int) = (y : Int) := by rw [IntKind.wrap_i64]; omega
  have oX : (x : Int) ≤ (y : Int) := by omega
  have oB : (y : Int) ≤ (cap : Int) := Int.ofNat_le.2 hyc
  clear BU
  go_enter Tryz.func34, Tryz.ntmps34
  go_upto_region 14 with fail
  rw [← hU]
  clear hU
  have q0 := fun k => (World.cell?_drewN U k ⟨nb, noff, none⟩).trans n0
  have q1 := fun k => (World.cell?_drewN U k ⟨nb, noff + 1, none⟩).trans n1
  go_quiet (fail)
  have B1 : Aside (Below w.heap.size w (U.drewN nq)) := below_drewN B0.out nq
  have K1 : Aside (BoxK (U.drewN nq) w.heap.size k s m0 m1 m2) := KU.out.keep (below_drewN (Below.refl _ _) nq)
  clear q0 q1 n0 n1 B0 KU
  generalize U.drewN nq = w1 at B1 K1 ⊢
  clear nq
  obtain ⟨L, hL⟩ : ∃ L, L = y - x := ⟨_, rfl⟩
  have hxL : x + L = y := by omega
  have HL : Aside (y - x = L) := hL.symm
  rw [← hL] at HR ⊢
  clear hL
  go_wp2_with fail
  go_loopg [91] L (fun g vi wr => ∃ i : Nat, vi = .int .i64 i ∧ i ≤ L ∧ L - i ≤ g ∧ Aside (Below w.heap.size w wr) ∧ Aside (BoxK wr w.heap.size k s m0 m1 m2) ∧ Aside (∀ j, j < i → lt d[x + j]! d[z]! = false))
  case atStart => exact ⟨0, rfl, by omega, by omega, B1, K1, fun j h => by omega⟩
  case round =>
    clear B1 K1
    obtain ⟨i, rfl, hil, hg, Bk, Kk, HJ⟩ := hrel
    by_cases hlt : i < L
    · have hltz : (i : Int) < (L : Int) := by omega
      obtain ⟨⟨x1, x2⟩, hx⟩ : ∃ v : It, v = d[x + i]! := ⟨_, rfl⟩
      obtain ⟨⟨y1, y2⟩, hy⟩ : ∃ v : It, v = d[z]! := ⟨_, rfl⟩
      have e1 := (HC.out (x + i) (by rw [HD.out]; omega))
      have e2 := (HC.out z (by rw [HD.out]; omega))
      rw [← hx] at e1
      rw [← hy] at e2
      have c1 : wr.cell? ⟨blk, off + x * 2 + i * 2, none⟩ = some (.int .i64 x1) := (Bk.out.cell (p := ⟨blk, _, none⟩) hbl).trans (by rw [show off + x * 2 + i * 2 = off + (x + i) * 2 by omega]; exact e1.1)
      have c2 : wr.cell? ⟨blk, off + x * 2 + i * 2 + 1, none⟩ = some (.int .i64 x2) := (Bk.out.cell (p := ⟨blk, _, none⟩) hbl).trans (by rw [show off + x * 2 + i * 2 + 1 = off + (x + i) * 2 + 1 by omega]; exact e1.2)
      have hl0 : ∀ W, Calls Tryz.prog 47 #[.agg #[.int .i64 k, .int .i64 s, .int .u64 m0, .int .u64 m1, .int .u64 m2], .agg #[.int .i64 x1, .int .i64 x2], .agg #[.int .i64 y1, .int .i64 y2]] W fun e w' => e = .returned (.bool (lt (x1, x2) (y1, y2))) ∧ Below W.heap.size W w' := fun W => LC (x1, x2) (y1, y2) W
      obtain ⟨c, hcc⟩ : ∃ c, c = lt (x1, x2) (y1, y2) := ⟨_, rfl⟩
      rw [← hcc] at hl0
      have HV : Aside (lt d[x + i]! d[z]! = c) := by show lt _ _ = _; rw [← hx, ← hy, hcc]
      obtain ⟨V, hV⟩ : ∃ V, V = wr.alloc (Obj.cells #[.int .i64 x1, .int .i64 x2] 49) := ⟨_, rfl⟩
      have BV : Below wr.heap.size wr V := by rw [hV]; exact below_alloc _ _
      have nV : V.heap[wr.heap.size]? = some (.cells #[.int .i64 x1, .int .i64 x2] 49 (0, 0)) := by rw [hV]; exact heap_alloc_new _ _
      have BT : Aside (Below w.heap.size w V) := Below.next Bk.out BV
      have KT : Aside (BoxK V w.heap.size k s m0 m1 m2) := Kk.out.keep BV
      have q1 := cell_regrown (show V.cell? ⟨wr.heap.size, 0, none⟩ = some (.int .i64 x1) by simp [World.cell?, nV])
      have q2 := cell_regrown (show V.cell? ⟨wr.heap.size, 1, none⟩ = some (.int .i64 x2) by simp [World.cell?, nV])
      have q3 := cell_regrown ((BT.out.cell (p := ⟨blk, off + z * 2, none⟩) hbl).trans e2.1)
      have q4 := cell_regrown ((BT.out.cell (p := ⟨blk, off + z * 2 + 1, none⟩) hbl).trans e2.2)
      have q5 := cell_regrown ((BT.out.cell (p := ⟨nb, noff + 2, none⟩) hnb).trans m2z)
      dsimp only at q3 q4
      obtain ⟨_, k0, k1, k2, k3, k4⟩ := KT.out
      have p0 := cell_regrown k0
      have p1 := cell_regrown k1
      have p2 := cell_regrown k2
      have p3 := cell_regrown k3
      have p4 := cell_regrown k4
      have hl : ∀ p : Regrown, Calls Tryz.prog 47 #[.agg #[.int .i64 k, .int .i64 s, .int .u64 m0, .int .u64 m1, .int .u64 m2], .agg #[.int .i64 x1, .int .i64 x2], .agg #[.int .i64 y1, .int .i64 y2]] (grow (redrawn V p.d) p.os) fun e w'' => e = .returned (.bool c) ∧ ∃ p : Regrown, w'' = grow (redrawn V p.d) p.os := fun p => Calls.regrown_of (hl0 _)
      have mixed : Tryz.prog.follows .mixedOrders = true := by kernel_rfl
      have wZ : IntKind.i64.wrap (z : Int) = (z : Int) := by rw [IntKind.wrap_i64]; omega
      have bZ : (z : Int) < (n : Int) := by omega
      clear k0 k1 k2 k3 k4 hx hy hcc e1 e2 hl0 nV BV
      have LC' : Aside _ := LC
      clear LC
      cases c with
      | true =>
        go_upto_region 17 with fail
        rw [← hV]
        clear hV c1 c2
        refine wp_region_quiet_below (by assumption) (by kernel_rfl) ?_
        repeat' (quiet_step (with_reducible exact hl _))
        all_goals
          refine wpQuiet_nil ?_
          intro _ hw'
          obtain ⟨⟨nq, osq⟩, hw''⟩ := hw'
          subst hw''
        have B2 : Aside _ := Below.next BT.out (below_regrown V nq osq)
        clear hl q1 q2 q3 q4 q5 p0 p1 p2 p3 p4
        go_wp2_with fail
        (try simp only [Exit.inBlock, Exit.then]); refine bodyPost_ret (results_tmp rfl _ _ _) rfl ?_
        refine ⟨?_, B2.out⟩
        cases R with
        | false => rfl
        | true => have := HR.out.1 rfl i hlt; rw [HV.out] at this; cases this
      | false =>
        go_upto_region 17 with fail
        rw [← hV]
        clear hV c1 c2
        refine wp_region_quiet_below (by assumption) (by kernel_rfl) ?_
        repeat' (quiet_step (with_reducible exact hl _))
        all_goals
          refine wpQuiet_nil ?_
          intro _ hw'
          obtain ⟨⟨nq, osq⟩, hw''⟩ := hw'
          subst hw''
        have B2 : Aside _ := Below.next BT.out (below_regrown V nq osq)
        have K2 : Aside _ := KT.out.keep (below_regrown V nq osq)
        clear hl q1 q2 q3 q4 q5 p0 p1 p2 p3 p4
        go_wp2_with fail
        go_roundg (L - (i + 1))
        case measure => omega
        case rel => exact ⟨i + 1, by go_num, by omega, Nat.le_refl _, B2, K2, fun j hj => by rcases Nat.lt_or_ge j i with h | h; exact HJ.out j h; rw [show j = i by omega]; exact HV.out⟩
    · have hltz : ¬ (i : Int) < (L : Int) := by omega
      obtain rfl : i = L := by omega
      go_wp2_with fail
      go_ret
      exact ⟨by rw [HR.out.2 HJ.out]; rfl, Bk.out⟩
end Go.Proofs.YtglgmkikegbchaaGreat
