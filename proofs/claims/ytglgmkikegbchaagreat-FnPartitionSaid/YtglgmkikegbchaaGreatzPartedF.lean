/- spec.parted (printed by gen/parted.py). -/
import Derived.Test.YtglgmkikegbchaaGreatzPartedP
namespace Go.Proofs.YtglgmkikegbchaaGreat
open Go.RowKit Go.Sort

set_option maxHeartbeats 8000000 in
set_option maxRecDepth 1000000 in
theorem parted_calls_false (blk off b : Nat) (na ra : Option Addr) (cap cap' n ncap rcap : Nat) (d d' : Array It) (o : Ordr) (x y z P : Nat) (w : World) (h : Rd2 w (some ⟨blk, off, none⟩) d) (h' : Rd2 w (some ⟨b, 0, none⟩) d') (hn : d.size = n) (hn' : d'.size = n) (hsz : n ≤ 2000) (hs0 : 0 ≤ o.shift) (hs1 : o.shift < 64) (hN : RdN w na #[(x : Int), (y : Int), (z : Int)]) (hR : RdN w ra #[(P : Int), flagN false])
    (h1 : x ≤ z) (h2 : z < y) (h3 : y ≤ n) (h4 : x ≤ P) (h5 : P < y) (HP : d'[P]! = d[z]!) (HU : ∀ i, x ≤ i → i < P → ltC (cfO o) d'[i]! d'[P]! = true) (HD : ∀ i, P < i → i < y → ltC (cfO o) d'[i]! d'[P]! = false)
    (HF : false = true ↔ ∀ i, x < i → i < y → decide (i ≤ P) = ltC (cfO o) (swp d x z)[i]! (swp d x z)[x]!) :
    Calls Tryz.prog 53 #[.slice (some ⟨blk, off, none⟩) n cap, .slice (some ⟨b, 0, none⟩) n cap', vOrd o, .slice na 3 ncap, .slice ra 2 rcap] w fun e w' => e = .returned (.bool true) ∧ Below w.heap.size w w' := by
  have LC := fun x y W => sless_calls o hs0 hs1 x y W
  have HL : Aside (Rd2 w (some ⟨blk, off, none⟩) d) := h
  obtain ⟨_, _, eb, hbl, hc⟩ := h (by omega)
  cases eb
  obtain ⟨_, _, eb, hbl', hc'⟩ := h' (by omega)
  cases eb
  obtain ⟨nb, noff, rfl, hnb, hnc⟩ := hN (by simp)
  obtain ⟨rb, roff, rfl, hrb, hrc⟩ := hR (by simp)
  generalize ltC (cfO o) = lt at LC HU HD HF
  have HS : Aside (false = true ↔ ∀ i, x < i → i < y → decide (i ≤ P) = lt (swp d x z)[i]! (swp d x z)[x]!) := HF
  have HC' : Aside (∀ i, i < d'.size → w.cell? ⟨b, 0 + i * 2, none⟩ = some (.int .i64 d'[i]!.1) ∧ w.cell? ⟨b, 0 + i * 2 + 1, none⟩ = some (.int .i64 d'[i]!.2)) := hc'
  have HN : Aside (d'.size = n ∧ d.size = n) := ⟨hn', hn⟩
  have m0z : w.cell? ⟨nb, noff, none⟩ = some (.int .i64 (x : Int)) := hnc 0 (by simp)
  have m1z : w.cell? ⟨nb, noff + 1, none⟩ = some (.int .i64 (y : Int)) := hnc 1 (by simp)
  have m2z : w.cell? ⟨nb, noff + 2, none⟩ = some (.int .i64 (z : Int)) := hnc 2 (by simp)
  have r0z : w.cell? ⟨rb, roff, none⟩ = some (.int .i64 (P : Int)) := hrc 0 (by simp)
  have r1z : w.cell? ⟨rb, roff + 1, none⟩ = some (.int .i64 (flagN false)) := hrc 1 (by simp)
  obtain ⟨⟨x1, x2⟩, hx⟩ : ∃ v : It, v = d[z]! := ⟨_, rfl⟩
  have e1 := hc z (by omega)
  have e2 := hc' P (by omega)
  rw [HP] at HU HD e2
  rw [← hx] at e1 e2 HU HD
  rw [Nat.zero_add] at e2
  have HU' : Aside (∀ i, x ≤ i → i < P → lt d'[i]! (x1, x2) = true) := HU
  have HD' : Aside (∀ i, P < i → i < y → lt d'[i]! (x1, x2) = false) := HD
  have E1 : Aside _ := e1
  have E2 : Aside _ := e2
  clear h h' hN hR hs0 hs1 hc hnc hrc hn hc' hn' HU HD HF HP hx
  obtain ⟨k, s, m0, m1, m2⟩ := o
  obtain ⟨U, hU⟩ : ∃ U, U = w.alloc (.cells #[.int .i64 k, .int .i64 s, .int .u64 m0, .int .u64 m1, .int .u64 m2] 26) := ⟨_, rfl⟩
  have BU : Below w.heap.size w U := by rw [hU]; exact below_alloc _ _
  have K1 : Aside (BoxK U w.heap.size k s m0 m1 m2) := by rw [hU]; exact boxK_new _ _ _ _ _ _ _
  have q0 := cell_regrown ((BU.cell (p := ⟨nb, noff, none⟩) hnb).trans m0z)
  have q1 := cell_regrown ((BU.cell (p := ⟨nb, noff + 1, none⟩) hnb).trans m1z)
  have q2 := cell_regrown ((BU.cell (p := ⟨nb, noff + 2, none⟩) hnb).trans m2z)
  have n0 : U.cell? ⟨rb, roff, none⟩ = _ := (BU.cell (p := ⟨rb, roff, none⟩) hrb).trans r0z
  have q5 := cell_regrown ((BU.cell (p := ⟨rb, roff + 1, none⟩) hrb).trans r1z)
  have q3 := cell_regrown ((BU.cell (p := ⟨b, P * 2, none⟩) hbl').trans e2.1)
  have q4 := cell_regrown ((BU.cell (p := ⟨b, P * 2 + 1, none⟩) hbl').trans e2.2)
  have q7 := cell_regrown ((BU.cell (p := ⟨blk, off + z * 2, none⟩) hbl).trans e1.1)
  have q8 := cell_regrown ((BU.cell (p := ⟨blk, off + z * 2 + 1, none⟩) hbl).trans e1.2)
  dsimp only at q3 q4 q7 q8
  have B1 : Aside (Below w.heap.size w U) := BU
  have oX : ¬ (P : Int) < (x : Int) := by omega
  have oY : ¬ (P : Int) ≥ (y : Int) := by omega
  have oX' : ¬ P < x := by omega
  have oY' : ¬ y ≤ P := by omega
  have bP : (P : Int) < (n : Int) := by omega
  have bZ : (z : Int) < (n : Int) := by omega
  have wP : IntKind.i64.wrap (P : Int) = (P : Int) := by rw [IntKind.wrap_i64]; omega
  have wZ : IntKind.i64.wrap (z : Int) = (z : Int) := by rw [IntKind.wrap_i64]; omega
  have mixed : Tryz.prog.follows .mixedOrders = true := by kernel_rfl
  clear BU e1 e2
  have q5' : ∀ (e : Nat) (os : Array Obj), (grow (redrawn U e) os).cell? ⟨rb, roff + 1, none⟩ = some (.int .i64 0) := q5
  clear q5
  go_enter Tryz.func53, Tryz.ntmps53
  go_upto_region 1 with fail
  rw [← hU]
  clear hU
  go_upto_region 2 with fail
  refine wp_region_quiet_below (by assumption) (by kernel_rfl) ?_
  generalize hA : ({ tmps := _, defers := _ } : Act) = A
  repeat
    refine wpQuiet_step (fun K hK => ?_)
    subst hA
    go_simp
    first
      | (generalize hA : ({ tmps := _, defers := _ } : Act) = A
         refine hK _ ?_
         clear hK K)
  refine wpQuiet_nil ?_
  subst hA
  intro _ hw'
  obtain ⟨⟨nq, osq⟩, hw''⟩ := hw'
  subst hw''

  have B2 : Aside (Below w.heap.size w (grow (redrawn U nq) osq)) := Below.next B1.out (below_regrown U nq osq)
  have K2 : Aside (BoxK (grow (redrawn U nq) osq) w.heap.size k s m0 m1 m2) := K1.out.keep (below_regrown U nq osq)
  have n0' := (B2.out.cell (p := ⟨nb, noff, none⟩) hnb).trans m0z
  generalize grow (redrawn U nq) osq = w2 at B2 K2 n0' ⊢
  clear q0 q1 q2 q3 q4 q5' q7 q8 n0 B1 K1 oX oY oX' oY' wP wZ
  go_wp2_with fail
  clear n0'
  go_loopg [12] (y - x) (fun g vi wr => ∃ i : Nat, vi = .int .i64 i ∧ x ≤ i ∧ i ≤ y ∧ y - i ≤ g ∧ Aside (Below w.heap.size w wr) ∧ Aside (BoxK wr w.heap.size k s m0 m1 m2))
  case atStart => exact ⟨x, rfl, Nat.le_refl _, by omega, Nat.le_refl _, B2, K2⟩
  case round =>
    clear B2 K2
    obtain ⟨i, rfl, hxi, hiy, hg, Bk, Kk⟩ := hrel
    have n1 := (Bk.out.cell (p := ⟨nb, noff + 1, none⟩) hnb).trans m1z
    by_cases hlt : i < y
    · have hltz : (i : Int) < (y : Int) := by omega
      obtain ⟨⟨y1, y2⟩, hy⟩ : ∃ v : It, v = d'[i]! := ⟨_, rfl⟩
      have e3 := HC'.out i (by rw [HN.out.1]; omega)
      rw [← hy, Nat.zero_add] at e3
      have q1 := cell_regrown ((Bk.out.cell (p := ⟨b, i * 2, none⟩) hbl').trans e3.1)
      have q2 := cell_regrown ((Bk.out.cell (p := ⟨b, i * 2 + 1, none⟩) hbl').trans e3.2)
      have q3 := cell_regrown ((Bk.out.cell (p := ⟨b, P * 2, none⟩) hbl').trans E2.out.1)
      have q4 := cell_regrown ((Bk.out.cell (p := ⟨b, P * 2 + 1, none⟩) hbl').trans E2.out.2)
      dsimp only at q1 q2 q3 q4
      obtain ⟨_, k0, k1, k2, k3, k4⟩ := Kk.out
      have p0 := cell_regrown k0
      have p1 := cell_regrown k1
      have p2 := cell_regrown k2
      have p3 := cell_regrown k3
      have p4 := cell_regrown k4
      have wI : IntKind.i64.wrap (i : Int) = (i : Int) := by rw [IntKind.wrap_i64]; omega
      have bI : (i : Int) < (n : Int) := by omega
      clear k0 k1 k2 k3 k4 e3
      rcases Nat.lt_trichotomy i P with hip | hip | hip
      · have hd1 : (i : Int) < (P : Int) := by omega
        have hd2 : ¬ (i : Int) > (P : Int) := by omega
        have hd3 : ¬ P < i := by omega
        have hcc : lt (y1, y2) (x1, x2) = true := by rw [hy]; exact HU'.out i hxi hip
        have C1 : Aside (∀ p : Regrown, Calls Tryz.prog 47 #[.agg #[.int .i64 k, .int .i64 s, .int .u64 m0, .int .u64 m1, .int .u64 m2], .agg #[.int .i64 y1, .int .i64 y2], .agg #[.int .i64 x1, .int .i64 x2]] (grow (redrawn wr p.d) p.os) fun e w'' => e = .returned (.bool true) ∧ ∃ p : Regrown, w'' = grow (redrawn wr p.d) p.os) := fun p => Calls.regrown_of (by rw [← hcc]; exact LC (y1, y2) (x1, x2) _)
        clear hcc hy
        have LC' : Aside _ := LC
        clear LC
        as_aux_lemma =>
          go_upto_region 7 with fail
          refine wp_region_quiet_below (by assumption) (by kernel_rfl) ?_
          generalize hA : ({ tmps := _, defers := _ } : Act) = A
          repeat
            refine wpQuiet_step (fun K hK => ?_)
            subst hA
            go_simp
            first
              | (generalize hA : ({ tmps := _, defers := _ } : Act) = A
                 refine hK _ ?_
                 clear hK K)
              | (apply Exists.intro
                 refine ⟨fun _ => ?_, ?_⟩
                 · first | (with_reducible exact C1.out _)
                 generalize hA : ({ tmps := _, defers := _ } : Act) = A
                 refine hK _ ?_
                 clear hK K)
          refine wpQuiet_nil ?_
          subst hA
          intro _ hw'
          obtain ⟨⟨nq, osq⟩, hw''⟩ := hw'
          subst hw''
          have B2 : Aside _ := Below.next Bk.out (below_regrown wr nq osq)
          have K2 : Aside _ := Kk.out.keep (below_regrown wr nq osq)
          clear C1 q1 q2 q3 q4 p0 p1 p2 p3 p4 wI bI hd1 hd2 hd3 n1
          go_wp2_with fail
          go_roundg (y - (i + 1))
          case measure => omega
          case rel => exact ⟨i + 1, by go_num, by omega, by omega, Nat.le_refl _, B2, K2⟩
      · subst hip
        have hd1 : ¬ (i : Int) < (i : Int) := by omega
        have hd2 : ¬ (i : Int) > (i : Int) := by omega
        clear hy
        have LC' : Aside _ := LC
        clear LC
        as_aux_lemma =>
          go_upto_region 7 with fail
          refine wp_region_quiet_below (by assumption) (by kernel_rfl) ?_
          generalize hA : ({ tmps := _, defers := _ } : Act) = A
          repeat
            refine wpQuiet_step (fun K hK => ?_)
            subst hA
            go_simp
            first
              | (generalize hA : ({ tmps := _, defers := _ } : Act) = A
                 refine hK _ ?_
                 clear hK K)
          refine wpQuiet_nil ?_
          subst hA
          intro _ hw'
          obtain ⟨⟨nq, osq⟩, hw''⟩ := hw'
          subst hw''
          have B2 : Aside _ := Below.next Bk.out (below_regrown wr nq osq)
          have K2 : Aside _ := Kk.out.keep (below_regrown wr nq osq)
          clear q1 q2 q3 q4 p0 p1 p2 p3 p4 wI bI hd1 hd2 n1
          go_wp2_with fail
          go_roundg (y - (i + 1))
          case measure => omega
          case rel => exact ⟨i + 1, by go_num, by omega, by omega, Nat.le_refl _, B2, K2⟩
      · have hd1 : ¬ (i : Int) < (P : Int) := by omega
        have hd2 : (i : Int) > (P : Int) := by omega
        have hd3 : ¬ i < P := by omega
        have hcc : lt (y1, y2) (x1, x2) = false := by rw [hy]; exact HD'.out i hip hlt
        have C1 : Aside (∀ p : Regrown, Calls Tryz.prog 47 #[.agg #[.int .i64 k, .int .i64 s, .int .u64 m0, .int .u64 m1, .int .u64 m2], .agg #[.int .i64 y1, .int .i64 y2], .agg #[.int .i64 x1, .int .i64 x2]] (grow (redrawn wr p.d) p.os) fun e w'' => e = .returned (.bool false) ∧ ∃ p : Regrown, w'' = grow (redrawn wr p.d) p.os) := fun p => Calls.regrown_of (by rw [← hcc]; exact LC (y1, y2) (x1, x2) _)
        clear hcc hy
        have LC' : Aside _ := LC
        clear LC
        as_aux_lemma =>
          go_upto_region 7 with fail
          refine wp_region_quiet_below (by assumption) (by kernel_rfl) ?_
          generalize hA : ({ tmps := _, defers := _ } : Act) = A
          repeat
            refine wpQuiet_step (fun K hK => ?_)
            subst hA
            go_simp
            first
              | (generalize hA : ({ tmps := _, defers := _ } : Act) = A
                 refine hK _ ?_
                 clear hK K)
              | (apply Exists.intro
                 refine ⟨fun _ => ?_, ?_⟩
                 · first | (with_reducible exact C1.out _)
                 generalize hA : ({ tmps := _, defers := _ } : Act) = A
                 refine hK _ ?_
                 clear hK K)
          refine wpQuiet_nil ?_
          subst hA
          intro _ hw'
          obtain ⟨⟨nq, osq⟩, hw''⟩ := hw'
          subst hw''
          have B2 : Aside _ := Below.next Bk.out (below_regrown wr nq osq)
          have K2 : Aside _ := Kk.out.keep (below_regrown wr nq osq)
          clear C1 q1 q2 q3 q4 p0 p1 p2 p3 p4 wI bI hd1 hd2 hd3 n1
          go_wp2_with fail
          go_roundg (y - (i + 1))
          case measure => omega
          case rel => exact ⟨i + 1, by go_num, by omega, by omega, Nat.le_refl _, B2, K2⟩
    · have hltz : ¬ (i : Int) < (y : Int) := by omega
      obtain rfl : y = i := by omega
      clear hlt hxi hiy hg
      have fc := first_copy blk off n cap d wr wr (HL.out.keep Bk.out) HN.out.2 (by omega) hsz (Below.refl _ _)
      go_upto_region 10 with (at_builtin; refine fc _ _ _ _ _ _ _ rfl rfl rfl rfl ?_; intro g rcap' w1 HF1)
      clear fc hltz n1
      have B3 : Aside (Below w.heap.size w w1) := Below.next Bk.out HF1.out.2.2.2
      have K3 : Aside (BoxK w1 w.heap.size k s m0 m1 m2) := Kk.out.keep HF1.out.2.2.2
      have n0 := (B3.out.cell (p := ⟨nb, noff, none⟩) hnb).trans m0z
      have n2 := (B3.out.cell (p := ⟨nb, noff + 2, none⟩) hnb).trans m2z
      obtain ⟨⟨u1, u2⟩, hu⟩ : ∃ v : It, v = d[x]! := ⟨_, rfl⟩
      obtain ⟨⟨v1, v2⟩, hv⟩ : ∃ v : It, v = d[z]! := ⟨_, rfl⟩
      have S1 : Aside (St2 w1 g 0 d w1) := HF1.out.2.2.1
      have hdn := HN.out.2
      obtain ⟨c11, c12, f11, f12⟩ := S1.out.holds x (by omega)
      obtain ⟨c21, c22, f21, f22⟩ := S1.out.holds z (by omega)
      rw [← hu] at c11 c12
      rw [← hv] at c21 c22
      dsimp only at c11 c12 c21 c22
      obtain ⟨u3, g3⟩ := S1.out.third x z (by omega) (by omega) (.int .i64 v1) (.int .i64 v2)
      obtain ⟨u4, g4⟩ := S1.out.fourth x z (by omega) (by omega) (.int .i64 v1) (.int .i64 v2) (.int .i64 u1)
      have S2 : Aside _ := (S1.out.swap (by omega) (by omega) hu hv).drew
      dsimp only at S2
      simp only [Nat.zero_add] at c11 c12 c21 c22 f11 f12 f21 f22 g3 g4 S2
      have bX : (x : Int) < (n : Int) := by omega
      have bZ' : (z : Int) < (n : Int) := by omega
      have wX : IntKind.i64.wrap (x : Int) = (x : Int) := by rw [IntKind.wrap_i64]; omega
      have wZ : IntKind.i64.wrap (z : Int) = (z : Int) := by rw [IntKind.wrap_i64]; omega
      have LC' : Aside _ := LC
      clear hu hv hdn LC
      go_region
      clear c11 c12 c21 c22 f11 f12 f21 f22 g3 g4 S1
      generalize ((((w1.setCell ⟨g, x * 2, none⟩ (.int .i64 v1)).setCell ⟨g, x * 2 + 1, none⟩ (.int .i64 v2)).setCell ⟨g, z * 2, none⟩ (.int .i64 u1)).setCell ⟨g, z * 2 + 1, none⟩ (.int .i64 u2)).drew = w2 at S2 ⊢
      have B4 : Aside (Below wr.heap.size wr w2) := below_grownBy HF1.out.2.2.2 S2.out.grown HF1.out.2.2.2.size HF1.out.1
      have B5 : Aside (Below w.heap.size w w2) := Below.next Bk.out B4.out
      have K5 : Aside (BoxK w2 w.heap.size k s m0 m1 m2) := Kk.out.keep B4.out
      clear n2 u3 u4 bZ' wZ K3
      have n0' := (B5.out.cell (p := ⟨nb, noff, none⟩) hnb).trans m0z
      have S3 : Aside (St2 w1 g 0 (swp d x z) w2) := S2
      have HZ : Aside ((swp d x z).size = n) := by rw [size_swp]; exact HN.out.2
      clear n0 S2
      generalize swp d x z = dx at HS S3 HZ
      go_upto_region 13 with fail
      clear n0'
      obtain ⟨⟨a1, a2⟩, ha⟩ : ∃ v : It, v = dx[x]! := ⟨_, rfl⟩
      have A0 : Aside ((a1, a2) = dx[x]!) := ha
      clear ha
      rw [show (x : Int) + 1 = ((x + 1 : Nat) : Int) by omega]
      go_loopg [14, 15] (y - x) (fun g' vs vi wj => ∃ (i : Nat) (B : Bool), vs = .bool B ∧ vi = .int .i64 i ∧ x + 1 ≤ i ∧ i ≤ y ∧ y - i ≤ g' ∧ Aside (Below w.heap.size w wj) ∧ Aside (BoxK wj w.heap.size k s m0 m1 m2) ∧ Aside (St2 w1 g 0 dx wj) ∧ Aside (B = true ↔ ∀ j, x < j → j < i → decide (j ≤ P) = lt dx[j]! dx[x]!))
      case atStart => exact ⟨x + 1, true, rfl, rfl, Nat.le_refl _, by omega, by omega, B5, K5, S3, ⟨fun _ j h1 h2 => absurd h2 (by omega), fun _ => rfl⟩⟩
      case round =>
        clear B5 K5 S3
        obtain ⟨i, B, rfl, rfl, hxi, hiy, hg, Bj, Kj, Sj, HB⟩ := hrel
        have n1 := (Bj.out.cell (p := ⟨nb, noff + 1, none⟩) hnb).trans m1z
        by_cases hlt : i < y
        · have hltz : (i : Int) < (y : Int) := by omega
          obtain ⟨⟨y1, y2⟩, hy⟩ : ∃ v : It, v = dx[i]! := ⟨_, rfl⟩
          have hdz := HZ.out
          obtain ⟨c11, c12, _, _⟩ := Sj.out.holds i (by omega)
          obtain ⟨c21, c22, _, _⟩ := Sj.out.holds x (by omega)
          rw [← hy] at c11 c12
          rw [← A0.out] at c21 c22
          simp only [Nat.zero_add] at c11 c12 c21 c22
          have q1 := cell_regrown c11
          have q2 := cell_regrown c12
          have q3 := cell_regrown c21
          have q4 := cell_regrown c22
          have q5 := cell_regrown ((Bj.out.cell (p := ⟨nb, noff, none⟩) hnb).trans m0z)
          obtain ⟨_, k0, k1, k2, k3, k4⟩ := Kj.out
          have p0 := cell_regrown k0
          have p1 := cell_regrown k1
          have p2 := cell_regrown k2
          have p3 := cell_regrown k3
          have p4 := cell_regrown k4
          have wI : IntKind.i64.wrap (i : Int) = (i : Int) := by rw [IntKind.wrap_i64]; omega
          have bI : (i : Int) < (n : Int) := by omega
          obtain ⟨c, hcc⟩ : ∃ c, lt (y1, y2) (a1, a2) = c := ⟨_, rfl⟩
          have C1 : Aside (∀ p : Regrown, Calls Tryz.prog 47 #[.agg #[.int .i64 k, .int .i64 s, .int .u64 m0, .int .u64 m1, .int .u64 m2], .agg #[.int .i64 y1, .int .i64 y2], .agg #[.int .i64 a1, .int .i64 a2]] (grow (redrawn wr p.d) p.os) fun e w'' => e = .returned (.bool c) ∧ ∃ p : Regrown, w'' = grow (redrawn wr p.d) p.os) := fun p => Calls.regrown_of (by rw [← hcc]; exact LC' (y1, y2) (a1, a2) _)
          have HB' : Aside ((B && (decide (i ≤ P) == c)) = true ↔ ∀ j, x < j → j < i + 1 → decide (j ≤ P) = lt dx[j]! dx[x]!) := by
            have hb := HB.out
            rw [hy, A0.out] at hcc
            constructor
            · intro e j h1 h2
              rw [Bool.and_eq_true] at e
              rcases Nat.lt_or_ge j i with h | h
              · exact hb.1 e.1 j h1 h
              · obtain rfl : j = i := by omega
                rw [hcc]; exact eq_of_beq e.2
            · intro e
              rw [Bool.and_eq_true]
              refine ⟨hb.2 fun j h1 h2 => e j h1 (by omega), ?_⟩
              rw [beq_iff_eq, ← hcc]
              exact e i (by omega) (by omega)
          have LC2 : Aside _ := LC'
          clear k0 k1 k2 k3 k4 c11 c12 c21 c22 hcc hy LC' HB hdz
          cases B
          · clear C1
            rw [Bool.false_and] at HB'
            as_aux_lemma =>
              go_upto_region 15 with fail
              refine wp_region_quiet_below (by assumption) (by kernel_rfl) ?_
              generalize hA : ({ tmps := _, defers := _ } : Act) = A
              repeat
                refine wpQuiet_step (fun K hK => ?_)
                subst hA
                go_simp
                first
                  | (generalize hA : ({ tmps := _, defers := _ } : Act) = A
                     refine hK _ ?_
                     clear hK K)
              refine wpQuiet_nil ?_
              subst hA
              intro _ hw'
              obtain ⟨⟨nq, osq⟩, hw''⟩ := hw'
              subst hw''
              have B2 : Aside _ := Below.next Bj.out (below_regrown wr nq osq)
              have K2 : Aside _ := Kj.out.keep (below_regrown wr nq osq)
              have S2 : Aside (St2 w1 g 0 dx (grow (redrawn wr nq) osq)) := Sj.out.keep (below_regrown wr nq osq)
              clear q1 q2 q3 q4 q5 p0 p1 p2 p3 p4 wI bI n1
              go_wp2_with fail
              go_roundg (y - (i + 1))
              case measure => omega
              case rel => exact ⟨i + 1, _, rfl, by go_num, by omega, by omega, Nat.le_refl _, B2, K2, S2, HB'⟩
          · rw [Bool.true_and] at HB'
            by_cases hip : i ≤ P
            · have hipz : (i : Int) ≤ (P : Int) := by omega
              rw [decide_eq_true hip] at HB'
              cases c
              · as_aux_lemma =>
                  go_upto_region 15 with fail
                  refine wp_region_quiet_below (by assumption) (by kernel_rfl) ?_
                  generalize hA : ({ tmps := _, defers := _ } : Act) = A
                  repeat
                    refine wpQuiet_step (fun K hK => ?_)
                    subst hA
                    go_simp
                    first
                      | (generalize hA : ({ tmps := _, defers := _ } : Act) = A
                         refine hK _ ?_
                         clear hK K)
                      | (apply Exists.intro
                         refine ⟨fun _ => ?_, ?_⟩
                         · first | (with_reducible exact C1.out _)
                         generalize hA : ({ tmps := _, defers := _ } : Act) = A
                         refine hK _ ?_
                         clear hK K)
                  refine wpQuiet_nil ?_
                  subst hA
                  intro _ hw'
                  obtain ⟨⟨nq, osq⟩, hw''⟩ := hw'
                  subst hw''
                  have B2 : Aside _ := Below.next Bj.out (below_regrown wr nq osq)
                  have K2 : Aside _ := Kj.out.keep (below_regrown wr nq osq)
                  have S2 : Aside (St2 w1 g 0 dx (grow (redrawn wr nq) osq)) := Sj.out.keep (below_regrown wr nq osq)
                  clear C1 hip hipz q1 q2 q3 q4 q5 p0 p1 p2 p3 p4 wI bI n1
                  go_wp2_with fail
                  go_roundg (y - (i + 1))
                  case measure => omega
                  case rel => exact ⟨i + 1, _, rfl, by go_num, by omega, by omega, Nat.le_refl _, B2, K2, S2, HB'⟩
              · as_aux_lemma =>
                  go_upto_region 15 with fail
                  refine wp_region_quiet_below (by assumption) (by kernel_rfl) ?_
                  generalize hA : ({ tmps := _, defers := _ } : Act) = A
                  repeat
                    refine wpQuiet_step (fun K hK => ?_)
                    subst hA
                    go_simp
                    first
                      | (generalize hA : ({ tmps := _, defers := _ } : Act) = A
                         refine hK _ ?_
                         clear hK K)
                      | (apply Exists.intro
                         refine ⟨fun _ => ?_, ?_⟩
                         · first | (with_reducible exact C1.out _)
                         generalize hA : ({ tmps := _, defers := _ } : Act) = A
                         refine hK _ ?_
                         clear hK K)
                  refine wpQuiet_nil ?_
                  subst hA
                  intro _ hw'
                  obtain ⟨⟨nq, osq⟩, hw''⟩ := hw'
                  subst hw''
                  have B2 : Aside _ := Below.next Bj.out (below_regrown wr nq osq)
                  have K2 : Aside _ := Kj.out.keep (below_regrown wr nq osq)
                  have S2 : Aside (St2 w1 g 0 dx (grow (redrawn wr nq) osq)) := Sj.out.keep (below_regrown wr nq osq)
                  clear C1 hip hipz q1 q2 q3 q4 q5 p0 p1 p2 p3 p4 wI bI n1
                  go_wp2_with fail
                  go_roundg (y - (i + 1))
                  case measure => omega
                  case rel => exact ⟨i + 1, _, rfl, by go_num, by omega, by omega, Nat.le_refl _, B2, K2, S2, HB'⟩
            · have hipz : ¬ (i : Int) ≤ (P : Int) := by omega
              have hip' : P < i := by omega
              rw [decide_eq_false hip] at HB'
              cases c
              · as_aux_lemma =>
                  go_upto_region 15 with fail
                  refine wp_region_quiet_below (by assumption) (by kernel_rfl) ?_
                  generalize hA : ({ tmps := _, defers := _ } : Act) = A
                  repeat
                    refine wpQuiet_step (fun K hK => ?_)
                    subst hA
                    go_simp
                    first
                      | (generalize hA : ({ tmps := _, defers := _ } : Act) = A
                         refine hK _ ?_
                         clear hK K)
                      | (apply Exists.intro
                         refine ⟨fun _ => ?_, ?_⟩
                         · first | (with_reducible exact C1.out _)
                         generalize hA : ({ tmps := _, defers := _ } : Act) = A
                         refine hK _ ?_
                         clear hK K)
                  refine wpQuiet_nil ?_
                  subst hA
                  intro _ hw'
                  obtain ⟨⟨nq, osq⟩, hw''⟩ := hw'
                  subst hw''
                  have B2 : Aside _ := Below.next Bj.out (below_regrown wr nq osq)
                  have K2 : Aside _ := Kj.out.keep (below_regrown wr nq osq)
                  have S2 : Aside (St2 w1 g 0 dx (grow (redrawn wr nq) osq)) := Sj.out.keep (below_regrown wr nq osq)
                  clear C1 hip hipz hip' q1 q2 q3 q4 q5 p0 p1 p2 p3 p4 wI bI n1
                  go_wp2_with fail
                  go_roundg (y - (i + 1))
                  case measure => omega
                  case rel => exact ⟨i + 1, _, rfl, by go_num, by omega, by omega, Nat.le_refl _, B2, K2, S2, HB'⟩
              · as_aux_lemma =>
                  go_upto_region 15 with fail
                  refine wp_region_quiet_below (by assumption) (by kernel_rfl) ?_
                  generalize hA : ({ tmps := _, defers := _ } : Act) = A
                  repeat
                    refine wpQuiet_step (fun K hK => ?_)
                    subst hA
                    go_simp
                    first
                      | (generalize hA : ({ tmps := _, defers := _ } : Act) = A
                         refine hK _ ?_
                         clear hK K)
                      | (apply Exists.intro
                         refine ⟨fun _ => ?_, ?_⟩
                         · first | (with_reducible exact C1.out _)
                         generalize hA : ({ tmps := _, defers := _ } : Act) = A
                         refine hK _ ?_
                         clear hK K)
                  refine wpQuiet_nil ?_
                  subst hA
                  intro _ hw'
                  obtain ⟨⟨nq, osq⟩, hw''⟩ := hw'
                  subst hw''
                  have B2 : Aside _ := Below.next Bj.out (below_regrown wr nq osq)
                  have K2 : Aside _ := Kj.out.keep (below_regrown wr nq osq)
                  have S2 : Aside (St2 w1 g 0 dx (grow (redrawn wr nq) osq)) := Sj.out.keep (below_regrown wr nq osq)
                  clear C1 hip hipz hip' q1 q2 q3 q4 q5 p0 p1 p2 p3 p4 wI bI n1
                  go_wp2_with fail
                  go_roundg (y - (i + 1))
                  case measure => omega
                  case rel => exact ⟨i + 1, _, rfl, by go_num, by omega, by omega, Nat.le_refl _, B2, K2, S2, HB'⟩
        · have hltz : ¬ (i : Int) < (y : Int) := by omega
          obtain rfl : y = i := by omega
          have hs := HS.out
          have hb := HB.out
          have r1 : wr.cell? ⟨rb, roff + 1, none⟩ = some (.int .i64 (flagN false)) := (Bj.out.cell (p := ⟨rb, roff + 1, none⟩) hrb).trans r1z
          have r1' : wr.cell? ⟨rb, roff + 1, none⟩ = some (.int .i64 0) := r1
          obtain rfl : B = false := by
            rw [Bool.eq_iff_iff, hb, hs]
          have q1 := cell_regrown r1'
          have C1 : Aside (∀ p : Regrown, Calls Tryz.prog 116 #[.bool false] (grow (redrawn wr p.d) p.os) fun e w'' => e = .returned (.int .i64 0) ∧ ∃ p : Regrown, w'' = grow (redrawn wr p.d) p.os) := fun p => (one_calls _ _).mono fun e w' ⟨h1, h2⟩ => ⟨h1, p, h2⟩
          clear hlt hxi hiy hg hs hb r1 r1'
          go_upto_region 16 with fail
          clear n1
          refine wp_region_quiet_below (by assumption) (by kernel_rfl) ?_
          generalize hA : ({ tmps := _, defers := _ } : Act) = A
          repeat
            refine wpQuiet_step (fun K hK => ?_)
            subst hA
            go_simp
            first
              | (generalize hA : ({ tmps := _, defers := _ } : Act) = A
                 refine hK _ ?_
                 clear hK K)
              | (apply Exists.intro
                 refine ⟨fun _ => ?_, ?_⟩
                 · first | (with_reducible exact C1.out _)
                 generalize hA : ({ tmps := _, defers := _ } : Act) = A
                 refine hK _ ?_
                 clear hK K)
          refine wpQuiet_nil ?_
          subst hA
          intro _ hw'
          obtain ⟨⟨nq, osq⟩, hw''⟩ := hw'
          subst hw''
          go_wp2_with fail
          go_ret
          exact ⟨rfl, Below.next Bj.out (below_regrown _ _ _)⟩
end Go.Proofs.YtglgmkikegbchaaGreat
