/- spec.sifted; spec.Ready of siftDown. -/
import Derived.Test.YtglgmkikegbchaaGreatGzHeap
namespace Go.Proofs.YtglgmkikegbchaaGreat
open Go.RowKit Go.Sort

set_option maxHeartbeats 4000000 in
set_option maxRecDepth 1000000 in
theorem sifted_calls (blk off b : Nat) (na : Option Addr) (cap cap' n ncap : Nat) (d d' : Array It) (o : Ordr) (x y z : Nat) (w : World) (h : Rd2 w (some ⟨blk, off, none⟩) d) (h' : Rd2 w (some ⟨b, 0, none⟩) d') (hn : d.size = n) (hn' : d'.size = n) (hca : n ≤ cap) (hcb : n ≤ cap') (hsz : n ≤ 2000) (hs0 : 0 ≤ o.shift) (hs1 : o.shift < 64) (hN : RdN w na #[(x : Int), (y : Int), (z : Int)])
    (h1 : x < y) (h2 : z + y ≤ n) (HS : ∀ i, i < y → belowB i x = false → d'[z + i]! = d[z + i]!) (HH : HeapAt (ltC (cfO o)) (fun i => d'[z + i]!) y x) :
    Calls Tryz.prog 52 #[.slice (some ⟨blk, off, none⟩) n cap, .slice (some ⟨b, 0, none⟩) n cap', vOrd o, .slice na 3 ncap] w fun e w' => e = .returned (.bool true) ∧ Below w.heap.size w w' := by
  obtain ⟨_, _, eb, hbl, hc⟩ := h (by omega)
  cases eb
  obtain ⟨_, _, eb, hbl', hc'⟩ := h' (by omega)
  cases eb
  obtain ⟨nb, noff, rfl, hnb, hnc⟩ := hN (by simp)
  have HC : Aside ((∀ i, i < d.size → w.cell? ⟨blk, off + i * 2, none⟩ = some (.int .i64 d[i]!.1) ∧ w.cell? ⟨blk, off + i * 2 + 1, none⟩ = some (.int .i64 d[i]!.2)) ∧ d.size = n) := ⟨hc, hn⟩
  have HC' : Aside ((∀ i, i < d'.size → w.cell? ⟨b, 0 + i * 2, none⟩ = some (.int .i64 d'[i]!.1) ∧ w.cell? ⟨b, 0 + i * 2 + 1, none⟩ = some (.int .i64 d'[i]!.2)) ∧ d'.size = n) := ⟨hc', hn'⟩
  have m0z : w.cell? ⟨nb, noff, none⟩ = some (.int .i64 (x : Int)) := hnc 0 (by simp)
  have m1z : w.cell? ⟨nb, noff + 1, none⟩ = some (.int .i64 (y : Int)) := hnc 1 (by simp)
  have m2z : w.cell? ⟨nb, noff + 2, none⟩ = some (.int .i64 (z : Int)) := hnc 2 (by simp)
  have HP : Aside (∀ (W : World) (cp : Nat), Below w.heap.size w W → Calls Tryz.prog 48 #[.slice (some ⟨b, z * 2, none⟩) y cp, vOrd o, .int .i64 x] W fun e w' => e = .returned (.bool true) ∧ Below W.heap.size W w') := fun W cp hW =>
    (heap_calls b (z * 2) cp y x (fun i => d'[z + i]!) o W (Nat.lt_of_lt_of_le hbl' hW.size) (fun i hi => by
      have e := hc' (z + i) (by omega)
      rw [show z * 2 + i * 2 = 0 + (z + i) * 2 by omega]
      exact ⟨(hW.cell (p := ⟨b, _, none⟩) hbl').trans e.1, (hW.cell (p := ⟨b, _, none⟩) hbl').trans e.2⟩) (by omega) hs0 hs1 (by omega)).mono fun e w' ⟨c, e1, e2, e3⟩ => ⟨by rw [e1, e2.2 HH], e3⟩
  have HS' : Aside (∀ i, i < y → belowB i x = false → d'[z + i]! = d[z + i]!) := HS
  clear h h' hN hs0 hs1 hc hc' hnc hn hn' HS HH
  obtain ⟨k, s, m0, m1, m2⟩ := o
  obtain ⟨U, hU⟩ : ∃ U, U = w.alloc (.cells #[.int .i64 k, .int .i64 s, .int .u64 m0, .int .u64 m1, .int .u64 m2] 26) := ⟨_, rfl⟩
  have BU : Below w.heap.size w U := by rw [hU]; exact below_alloc _ _
  have K1 : Aside (BoxK U w.heap.size k s m0 m1 m2) := by rw [hU]; exact boxK_new _ _ _ _ _ _ _
  have q1 := fun e => (World.cell?_drewN U e ⟨nb, noff + 1, none⟩).trans ((BU.cell (p := ⟨nb, noff + 1, none⟩) hnb).trans m1z)
  have q2 := fun e => (World.cell?_drewN U e ⟨nb, noff + 2, none⟩).trans ((BU.cell (p := ⟨nb, noff + 2, none⟩) hnb).trans m2z)
  have B1 : Aside (Below w.heap.size w U) := BU
  have wZ : IntKind.i64.wrap (z : Int) = (z : Int) := by rw [IntKind.wrap_i64]; omega
  have wS : IntKind.i64.wrap ((z : Int) + (y : Int)) = (z : Int) + (y : Int) := by rw [IntKind.wrap_i64]; omega
  have oZ : (z : Int) ≤ (z : Int) + (y : Int) := by omega
  have oA : (z : Int) + (y : Int) ≤ (cap : Int) := by omega
  have oB : (z : Int) + (y : Int) ≤ (cap' : Int) := by omega
  have z0 : (0 : Int) ≤ (z : Int) + (y : Int) := by omega
  have zt : ((z : Int) + (y : Int)).toNat = z + y := by omega
  have hcz : ¬ cap = z := by omega
  have hcz' : ¬ cap' = z := by omega
  clear BU
  go_enter Tryz.func52, Tryz.ntmps52
  go_upto_region 1 with fail
  rw [← hU]
  clear hU
  go_quiet (fail)
  have B2 : Aside (Below w.heap.size w (U.drewN nq)) := below_drewN B1.out nq
  have K2 : Aside (BoxK (U.drewN nq) w.heap.size k s m0 m1 m2) := K1.out.keep (below_drewN (Below.refl _ _) nq)
  clear q1 q2 B1 K1 wS oZ oA oB z0 zt hcz hcz'
  generalize U.drewN nq = w2 at B2 K2 ⊢
  go_wp2_with fail
  go_loopg [38] y (fun g vi wr => ∃ i : Nat, vi = .int .i64 i ∧ i ≤ y ∧ y - i ≤ g ∧ Aside (Below w.heap.size w wr) ∧ Aside (BoxK wr w.heap.size k s m0 m1 m2))
  case atStart => exact ⟨0, rfl, by omega, by omega, B2, K2⟩
  case round =>
    clear B2 K2
    obtain ⟨i, rfl, hiy, hg, Bk, Kk⟩ := hrel
    have q0 := cell_regrown ((Bk.out.cell (p := ⟨nb, noff, none⟩) hnb).trans m0z)
    have mixed : Tryz.prog.follows .mixedOrders = true := by kernel_rfl
    have wX : IntKind.i64.wrap (x : Int) = (x : Int) := by rw [IntKind.wrap_i64]; omega
    by_cases hlt : i < y
    · have hltz : (i : Int) < (y : Int) := by omega
      have wI : IntKind.i64.wrap (i : Int) = (i : Int) := by rw [IntKind.wrap_i64]; omega
      obtain ⟨R, hR⟩ : ∃ R, R = belowB i x := ⟨_, rfl⟩
      have C1 : Aside (∀ p : Regrown, Calls Tryz.prog 115 #[.int .i64 i, .int .i64 x] (grow (redrawn wr p.d) p.os) fun e w'' => e = .returned (.bool R) ∧ ∃ p : Regrown, w'' = grow (redrawn wr p.d) p.os) := fun p => (hR ▸ below_calls i x (by omega) _).mono fun e w' ⟨h1, h2⟩ => ⟨h1, p, h2⟩
      cases R with
      | true =>
        clear hR
        go_upto_region 5 with fail
        refine wp_region_quiet_below (by assumption) (by kernel_rfl) ?_
        generalize hA : ({ tmps := _, defers := _ } : Act) = A
        repeat
          refine wpQuiet_step (fun K hK => ?_)
          subst hA
          go_simp
          first
            | (generalize hA : ({ tmps := _, defers := _ } : Act) = A
               refine hK _ ?_
               clear hK K)
            | (apply Exists.intro
               refine ⟨fun _ => ?_, ?_⟩
               · first | (with_reducible exact C1.out _)
               generalize hA : ({ tmps := _, defers := _ } : Act) = A
               refine hK _ ?_
               clear hK K)
        refine wpQuiet_nil ?_
        subst hA
        intro _ hw'
        obtain ⟨⟨nq, osq⟩, hw''⟩ := hw'
        subst hw''
        have B3 : Aside _ := Below.next Bk.out (below_regrown wr nq osq)
        have K3 : Aside _ := Kk.out.keep (below_regrown wr nq osq)
        clear C1 q0 wX wI
        go_wp2_with fail
        go_roundg (y - (i + 1))
        case measure => omega
        case rel => exact ⟨i + 1, by go_num, by omega, Nat.le_refl _, B3, K3⟩
      | false =>
        have he := HS'.out i hlt hR.symm
        clear hR
        obtain ⟨⟨x1, x2⟩, hx⟩ : ∃ v : It, v = d[z + i]! := ⟨_, rfl⟩
        have e1 := HC.out.1 (z + i) (by rw [HC.out.2]; omega)
        have e2 := HC'.out.1 (z + i) (by rw [HC'.out.2]; omega)
        rw [← hx] at e1
        rw [he, ← hx] at e2
        rw [show off + (z + i) * 2 = off + z * 2 + i * 2 by omega] at e1
        rw [show 0 + (z + i) * 2 = z * 2 + i * 2 by omega] at e2
        have q1 := cell_regrown ((Bk.out.cell (p := ⟨blk, off + z * 2 + i * 2, none⟩) hbl).trans e1.1)
        have q2 := cell_regrown ((Bk.out.cell (p := ⟨blk, off + z * 2 + i * 2 + 1, none⟩) hbl).trans e1.2)
        have q3 := cell_regrown ((Bk.out.cell (p := ⟨b, z * 2 + i * 2, none⟩) hbl').trans e2.1)
        have q4 := cell_regrown ((Bk.out.cell (p := ⟨b, z * 2 + i * 2 + 1, none⟩) hbl').trans e2.2)
        dsimp only at q1 q2 q3 q4
        clear he hx e1 e2
        go_upto_region 5 with fail
        refine wp_region_quiet_below (by assumption) (by kernel_rfl) ?_
        generalize hA : ({ tmps := _, defers := _ } : Act) = A
        repeat
          refine wpQuiet_step (fun K hK => ?_)
          subst hA
          go_simp
          first
            | (generalize hA : ({ tmps := _, defers := _ } : Act) = A
               refine hK _ ?_
               clear hK K)
            | (apply Exists.intro
               refine ⟨fun _ => ?_, ?_⟩
               · first | (with_reducible exact C1.out _)
               generalize hA : ({ tmps := _, defers := _ } : Act) = A
               refine hK _ ?_
               clear hK K)
        refine wpQuiet_nil ?_
        subst hA
        intro _ hw'
        obtain ⟨⟨nq, osq⟩, hw''⟩ := hw'
        subst hw''
        have B3 : Aside _ := Below.next Bk.out (below_regrown wr nq osq)
        have K3 : Aside _ := Kk.out.keep (below_regrown wr nq osq)
        clear C1 q0 q1 q2 q3 q4 wX wI
        go_wp2_with fail
        go_roundg (y - (i + 1))
        case measure => omega
        case rel => exact ⟨i + 1, by go_num, by omega, Nat.le_refl _, B3, K3⟩
    · have hltz : ¬ (i : Int) < (y : Int) := by omega
      obtain ⟨_, k0, k1, k2, k3, k4⟩ := Kk.out
      have p0 := cell_regrown k0
      have p1 := cell_regrown k1
      have p2 := cell_regrown k2
      have p3 := cell_regrown k3
      have p4 := cell_regrown k4
      have C1 : ∀ p : Regrown, Calls Tryz.prog 48 #[.slice (some ⟨b, z * 2, none⟩) y (cap' - z), .agg #[.int .i64 k, .int .i64 s, .int .u64 m0, .int .u64 m1, .int .u64 m2], .int .i64 x] (grow (redrawn wr p.d) p.os) fun e w'' => e = .returned (.bool true) ∧ ∃ p : Regrown, w'' = grow (redrawn wr p.d) p.os := fun p => Calls.regrown_of (HP.out _ _ (Below.next Bk.out (below_regrown _ _ _)))
      clear k0 k1 k2 k3 k4
      go_upto_region 8 with fail
      refine wp_region_quiet_below (by assumption) (by kernel_rfl) ?_
      repeat' (quiet_step (with_reducible exact C1 _))
      all_goals
        refine wpQuiet_nil ?_
        intro _ hw'
        obtain ⟨⟨nq, osq⟩, hw''⟩ := hw'
        subst hw''
      have B3 : Aside _ := Below.next Bk.out (below_regrown wr nq osq)
      clear C1 q0 p0 p1 p2 p3 p4 wX
      go_wp2_with fail
      go_ret
      exact ⟨rfl, B3.out⟩

set_option maxHeartbeats 4000000 in
set_option maxRecDepth 1000000 in
theorem ready_siftDown (a na : Option Addr) (cap n ncap : Nat) (d : Array It) (o : Ordr) (x y z : Nat) (w : World) (h : Arg w a cap d) (hn : d.size = n) (hsz : n ≤ 2000) (hs0 : 0 ≤ o.shift) (hs1 : o.shift < 64) (hN : RdN w na #[(x : Int), (y : Int), (z : Int)]) (h1 : x < y) (h2 : z + y ≤ n) :
    Calls Tryz.prog 34 #[.int .i64 1, .slice a n cap, vOrd o, .slice na 3 ncap] w fun e w' => e = .returned (.bool (heapB (ltC (cfO o)) d y z (2 * x + 1) && heapB (ltC (cfO o)) d y z (2 * x + 2))) ∧ Below w.heap.size w w' := by
  have hle := h.le
  obtain ⟨blk, off, rfl, hbl, hc⟩ := h.rd (by omega)
  obtain ⟨nb, noff, rfl, hnb, hnc⟩ := hN (by simp)
  have HP : ∀ (c : Nat), c ≤ 10000 → ∀ (W : World), Below w.heap.size w W → Calls Tryz.prog 48 #[.slice (some ⟨blk, off + z * 2, none⟩) y (cap - z), vOrd o, .int .i64 c] W fun e w' => e = .returned (.bool (heapB (ltC (cfO o)) d y z c)) ∧ Below W.heap.size W w' := fun c hc0 W hW =>
    (heap_calls blk (off + z * 2) (cap - z) y c (fun i => d[z + i]!) o W (Nat.lt_of_lt_of_le hbl hW.size) (fun i hi => by
      have e := hc (z + i) (by omega)
      rw [show off + z * 2 + i * 2 = off + (z + i) * 2 by omega]
      exact ⟨(hW.cell (p := ⟨blk, _, none⟩) hbl).trans e.1, (hW.cell (p := ⟨blk, _, none⟩) hbl).trans e.2⟩) (by omega) hs0 hs1 hc0).mono fun e w' ⟨r, e1, e2, e3⟩ => ⟨by rw [e1]; congr 2; rw [Bool.eq_iff_iff, e2, heapB_true], e3⟩
  have P1 := HP (2 * x + 1) (by omega)
  have P2 := HP (2 * x + 2) (by omega)
  obtain ⟨R1, hR1⟩ : ∃ R, R = heapB (ltC (cfO o)) d y z (2 * x + 1) := ⟨_, rfl⟩
  obtain ⟨R2, hR2⟩ : ∃ R, R = heapB (ltC (cfO o)) d y z (2 * x + 2) := ⟨_, rfl⟩
  rw [← hR1] at P1 ⊢
  rw [← hR2] at P2 ⊢
  have m0z : w.cell? ⟨nb, noff, none⟩ = some (.int .i64 (x : Int)) := hnc 0 (by simp)
  have m1z : w.cell? ⟨nb, noff + 1, none⟩ = some (.int .i64 (y : Int)) := hnc 1 (by simp)
  have m2z : w.cell? ⟨nb, noff + 2, none⟩ = some (.int .i64 (z : Int)) := hnc 2 (by simp)
  clear HP hR1 hR2 h hN hs0 hs1 hc hnc
  obtain ⟨k, s, m0, m1, m2⟩ := o
  obtain ⟨U, hU⟩ : ∃ U, U = w.alloc (.cells #[.int .i64 k, .int .i64 s, .int .u64 m0, .int .u64 m1, .int .u64 m2] 26) := ⟨_, rfl⟩
  have BU : Below w.heap.size w U := by rw [hU]; exact below_alloc _ _
  have KU : Aside (BoxK U w.heap.size k s m0 m1 m2) := by show BoxK _ _ _ _ _ _ _; rw [hU]; exact boxK_new _ _ _ _ _ _ _
  have r1 := fun e => (World.cell?_drewN U e ⟨nb, noff + 1, none⟩).trans ((BU.cell (p := ⟨nb, noff + 1, none⟩) hnb).trans m1z)
  have r2 := fun e => (World.cell?_drewN U e ⟨nb, noff + 2, none⟩).trans ((BU.cell (p := ⟨nb, noff + 2, none⟩) hnb).trans m2z)
  have B0 : Aside (Below w.heap.size w U) := BU
  have wZ : IntKind.i64.wrap (z : Int) = (z : Int) := by rw [IntKind.wrap_i64]; omega
  have wS : IntKind.i64.wrap ((z : Int) + (y : Int)) = (z : Int) + (y : Int) := by rw [IntKind.wrap_i64]; omega
  have oZ : (z : Int) ≤ (z : Int) + (y : Int) := by omega
  have oA : (z : Int) + (y : Int) ≤ (cap : Int) := by omega
  have z0 : (0 : Int) ≤ (z : Int) + (y : Int) := by omega
  have zt : ((z : Int) + (y : Int)).toNat = z + y := by omega
  have hcz : ¬ cap = z := by omega
  have mixed : Tryz.prog.follows .mixedOrders = true := by kernel_rfl
  have HC1 : Aside (∀ W, Below w.heap.size w W → Calls Tryz.prog 48 #[.slice (some ⟨blk, off + z * 2, none⟩) y (cap - z), .agg #[.int .i64 k, .int .i64 s, .int .u64 m0, .int .u64 m1, .int .u64 m2], .int .i64 (2 * (x : Int) + 1)] W fun e w' => e = .returned (.bool R1) ∧ Below W.heap.size W w') := fun W hW => by have := P1 W hW; push_cast at this; exact this
  have HC2 : Aside (∀ W, Below w.heap.size w W → Calls Tryz.prog 48 #[.slice (some ⟨blk, off + z * 2, none⟩) y (cap - z), .agg #[.int .i64 k, .int .i64 s, .int .u64 m0, .int .u64 m1, .int .u64 m2], .int .i64 (2 * (x : Int) + 2)] W fun e w' => e = .returned (.bool R2) ∧ Below W.heap.size W w') := fun W hW => by have := P2 W hW; push_cast at this; exact this
  have hx2 : (x : Int) ≤ 2000 := by omega
  clear BU P1 P2
  go_enter Tryz.func34, Tryz.ntmps34
  go_upto_region 11 with fail
  rw [← hU]
  clear hU
  go_quiet (fail)
  have B1 : Aside (Below w.heap.size w (U.drewN nq)) := below_drewN B0.out nq
  have K1 : Aside (BoxK (U.drewN nq) w.heap.size k s m0 m1 m2) := KU.out.keep (below_drewN (Below.refl _ _) nq)
  clear r1 r2 B0 KU wS oZ oA z0 zt hcz
  generalize U.drewN nq = w1 at B1 K1 ⊢
  clear nq
  go_upto_region 12 with fail
  have q0 := cell_regrown ((B1.out.cell (p := ⟨nb, noff, none⟩) hnb).trans m0z)
  obtain ⟨_, k0, k1, k2, k3, k4⟩ := K1.out
  have p0 := cell_regrown k0
  have p1 := cell_regrown k1
  have p2 := cell_regrown k2
  have p3 := cell_regrown k3
  have p4 := cell_regrown k4
  have C1 : Aside (∀ p : Regrown, Calls Tryz.prog 48 #[.slice (some ⟨blk, off + z * 2, none⟩) y (cap - z), .agg #[.int .i64 k, .int .i64 s, .int .u64 m0, .int .u64 m1, .int .u64 m2], .int .i64 (2 * (x : Int) + 1)] (grow (redrawn w1 p.d) p.os) fun e w'' => e = .returned (.bool R1) ∧ ∃ p : Regrown, w'' = grow (redrawn w1 p.d) p.os) := fun p => Calls.regrown_of (HC1.out _ (Below.next B1.out (below_regrown _ _ _)))
  have C2 : Aside (∀ p : Regrown, Calls Tryz.prog 48 #[.slice (some ⟨blk, off + z * 2, none⟩) y (cap - z), .agg #[.int .i64 k, .int .i64 s, .int .u64 m0, .int .u64 m1, .int .u64 m2], .int .i64 (2 * (x : Int) + 2)] (grow (redrawn w1 p.d) p.os) fun e w'' => e = .returned (.bool R2) ∧ ∃ p : Regrown, w'' = grow (redrawn w1 p.d) p.os) := fun p => Calls.regrown_of (HC2.out _ (Below.next B1.out (below_regrown _ _ _)))
  have v1 : IntKind.i64.wrap (2 * (x : Int)) = 2 * (x : Int) := by rw [IntKind.wrap_i64]; omega
  have v2 : IntKind.i64.wrap (2 * (x : Int) + 1) = 2 * (x : Int) + 1 := by rw [IntKind.wrap_i64]; omega
  have v3 : IntKind.i64.wrap (2 * (x : Int) + 2) = 2 * (x : Int) + 2 := by rw [IntKind.wrap_i64]; omega
  clear k0 k1 k2 k3 k4
  refine wp_region_quiet_below (by assumption) (by kernel_rfl) ?_
  cases R1 with
  | false =>
    clear C2
    generalize hA : ({ tmps := _, defers := _ } : Act) = A
    repeat
      refine wpQuiet_step (fun K hK => ?_)
      subst hA
      go_simp
      first
        | (generalize hA : ({ tmps := _, defers := _ } : Act) = A
           refine hK _ ?_
           clear hK K)
        | (apply Exists.intro
           refine ⟨fun _ => ?_, ?_⟩
           · first | (with_reducible exact C1.out _)
           generalize hA : ({ tmps := _, defers := _ } : Act) = A
           refine hK _ ?_
           clear hK K)
    refine wpQuiet_nil ?_
    subst hA
    intro _ hw'
    obtain ⟨⟨nq, osq⟩, hw''⟩ := hw'
    subst hw''
    have B3 : Aside _ := Below.next B1.out (below_regrown w1 nq osq)
    clear C1 q0 p0 p1 p2 p3 p4 v1 v2 v3
    go_wp2_with fail
    go_ret
    exact ⟨rfl, B3.out⟩
  | true =>
    generalize hA : ({ tmps := _, defers := _ } : Act) = A
    repeat
      refine wpQuiet_step (fun K hK => ?_)
      subst hA
      go_simp
      first
        | (generalize hA : ({ tmps := _, defers := _ } : Act) = A
           refine hK _ ?_
           clear hK K)
        | (apply Exists.intro
           refine ⟨fun _ => ?_, ?_⟩
           · first | (with_reducible exact C1.out _) | (with_reducible exact C2.out _)
           generalize hA : ({ tmps := _, defers := _ } : Act) = A
           refine hK _ ?_
           clear hK K)
    refine wpQuiet_nil ?_
    subst hA
    intro _ hw'
    obtain ⟨⟨nq, osq⟩, hw''⟩ := hw'
    subst hw''
    have B3 : Aside _ := Below.next B1.out (below_regrown w1 nq osq)
    clear C1 C2 q0 p0 p1 p2 p3 p4 v1 v2 v3
    go_wp2_with fail
    go_ret
    exact ⟨rfl, B3.out⟩
end Go.Proofs.YtglgmkikegbchaaGreat
