/- pdqsort: the text over the keys alone, floats. -/
import Derived.Test.YtglgmkikegbchaaWx0
import Derived.Test.YtglgmkikegbchaaPb
import Derived.Test.YtglgmkikegbchaaWxInsertionSort
import Derived.Test.YtglgmkikegbchaaWxHeapSort
import Derived.Test.YtglgmkikegbchaaWxBreakPatterns
import Derived.Test.YtglgmkikegbchaaWxChoosePivot
import Derived.Test.YtglgmkikegbchaaWxReverseRange
import Derived.Test.YtglgmkikegbchaaWxPartialInsertionSort
import Derived.Test.YtglgmkikegbchaaWxPartitionEqual
import Derived.Test.YtglgmkikegbchaaWxPartition
import Derived.Test.YtglgmkikegbchaaPh
import Derived.Deep.CutBlock
import Derived.Deep.DeepCutAuto
import Derived.Sort.WalkC4
import Derived.Sort.WalkC
namespace Go.Proofs.Ytglgmkikegbchaa
open Go.RowKit Go.Sort
attribute [local go_sem] run_store_float

set_option maxHeartbeats 16000000 in
set_option maxRecDepth 1000000 in
theorem pdqsortN_x (w0 : World) (blk off cap n : Nat) (hsz : n < 4611686018427387904) : ∀ (N a b limit : Nat) (d : Array Nat) (w : World), b - a < N → St1 eFl w0 blk off d w → d.size = n → a ≤ b → b ≤ n → limit < 4611686018427387904 →
    Calls Try.prog 92 #[.slice (some ⟨blk, off, none⟩) n cap, .int .i64 a, .int .i64 b, .int .i64 limit] w fun e w' => e = .returned (.tuple #[]) ∧ St1 eFl w0 blk off (pdq ltFl d a b limit true true) w' := by
  intro N
  induction N with
  | zero => intro a b limit d w h; omega
  | succ N ih =>
    intro a b limit d w hN S hn hab hbn hlimit
    have IH : Aside _ := ih
    clear ih
    have S0 : Aside (St1 eFl w0 blk off d w) := S
    clear S
    obtain ⟨R, hR⟩ : ∃ R, R = pdq ltFl d a b limit true true := ⟨_, rfl⟩
    rw [← hR]
    have HR : Hid (pdq ltFl d a b limit true true = R) := hR.symm
    clear hR
    go_enter Try.func92, Try.ntmps92
    go_wp2_with fail
    go_loopg [1, 2, 3, 8, 9] (b - a) (fun g v1 v2 v3 v8 v9 wr => ∃ (lo hi lim : Nat) (wb wp : Bool) (dk : Array Nat), v1 = .int .i64 lo ∧ v2 = .int .i64 hi ∧ v3 = .int .i64 lim ∧ v8 = .bool wb ∧ v9 = .bool wp ∧ lo ≤ hi ∧ hi ≤ n ∧ hi - lo ≤ g ∧ g ≤ b - a ∧ lim ≤ limit ∧ dk.size = n ∧ Aside (St1 eFl w0 blk off dk wr) ∧ Hid (pdq ltFl dk lo hi lim wb wp = R))
    case atStart => exact ⟨a, b, limit, true, true, d, rfl, rfl, rfl, rfl, rfl, hab, hbn, Nat.le_refl _, Nat.le_refl _, Nat.le_refl _, hn, S0, HR⟩
    case round =>
      clear S0 HR
      obtain ⟨lo, hi, lim, wb, wp, dk, rfl, rfl, rfl, rfl, rfl, hxy, hyn, hg, hgN, hlim, hsk, Sk, HO⟩ := hrel
      by_cases h12 : hi - lo ≤ 12
      · have h12z : (hi : Int) - (lo : Int) ≤ 12 := by omega
        have hc1 := insertionSort_x w0 blk off cap n dk wr Sk.out hsk hsz lo hi hxy hyn
        go_wp2_with fail
        refine hc1.mono ?_
        rintro e w2 ⟨rfl, S2q⟩
        have S2 : Aside _ := S2q
        clear hc1 S2q
        go_wp2_with fail
        (try simp only [Exit.inBlock, Exit.then]); refine bodyPost_ret (results_none rfl _ _ _) rfl ?_
        exact ⟨rfl, by rw [← HO.out, pdq_small h12]; exact S2.out⟩
      · have h12z : ¬ (hi : Int) - (lo : Int) ≤ 12 := by omega
        by_cases hl0 : lim = 0
        · subst hl0
          have hc2 := heapSort_x w0 blk off cap n dk wr Sk.out hsk hsz lo hi hxy hyn
          go_wp2_with fail
          refine hc2.mono ?_
          rintro e w2 ⟨rfl, S2q⟩
          have S2 : Aside _ := S2q
          clear hc2 S2q
          go_wp2_with fail
          (try simp only [Exit.inBlock, Exit.then]); refine bodyPost_ret (results_none rfl _ _ _) rfl ?_
          exact ⟨rfl, by rw [← HO.out, pdq_heap h12 rfl]; exact S2.out⟩
        · have hl0z : ¬ (lim : Int) = 0 := by omega
          obtain ⟨d1, l1, pc, ph, d2, pv, ht, pb, d3, st⟩ := stages ltFl dk lo hi lim wb wp h12 hl0 (by omega)
          have hl1 := st.le
          have hs1 := st.s1.trans hsk
          have hs2 := st.s2.trans hsk
          have hs3 := st.s3.trans hsk
          have hpc1 := st.lo
          have hpc2 := st.hi
          have hp1 := st.plo
          have hp2 := st.phi
          have ST : Aside _ := st
          clear st
          go_upto_if 35 with fail
          go_cut [3] (fun v3 wx => v3 = .int .i64 l1 ∧ Aside (St1 eFl w0 blk off d1 wx))
          case first =>
            cases wb with
            | false =>
              obtain ⟨e1, e2⟩ := ST.out.unb rfl
              have hlz : (lim : Int) - 1 = (l1 : Int) := by omega
              have hc3 := breakPatterns_x w0 blk off cap n dk wr Sk.out hsk hsz lo hi hxy hyn
              rw [← e1] at hc3
              clear e1 e2
              go_wp2_with fail
              refine hc3.mono ?_
              rintro e w2 ⟨rfl, S2q⟩
              have S2 : Aside _ := S2q
              clear hc3 S2q
              go_wp2_with fail
              go_meet
              case rel => exact ⟨by go_num, S2⟩
            | true =>
              obtain ⟨e1, e2⟩ := ST.out.bal rfl
              subst e1 e2
              go_wp2_with fail
              go_meet
              case rel => exact ⟨rfl, Sk⟩
          case rest =>
            clear Sk
            obtain ⟨rfl, S1⟩ := hcut
            have hc4 := choosePivot_x w0 blk off cap n d1 wc S1.out hs1 hsz lo hi hxy hyn
            rw [ST.out.ch] at hc4
            dsimp only at hc4
            go_wp2_with fail
            refine hc4.mono ?_
            rintro e w2 ⟨rfl, S2q⟩
            have S2 : Aside _ := S2q
            clear hc4 S2q
            clear S1
            go_upto_if 50 with fail
            go_cut [11, 12] (fun vp vh wx => vp = .int .i64 pv ∧ vh = .int .i64 (hintCode ht) ∧ Aside (St1 eFl w0 blk off d2 wx))
            case first =>
              by_cases hh : ph = .decreasing
              · have hcode : (hintCode ph : Int) = 2 := by rw [hh]; rfl
                obtain ⟨e1, e2, e3⟩ := ST.out.dec hh
                have hcode2 : (hintCode ht : Int) = 1 := by rw [e3]; rfl
                have hc5 := reverseRange_x w0 blk off cap n d1 w2 S2.out hs1 hsz lo hi hxy hyn
                rw [← e1] at hc5
                have E2 : Aside _ := e2
                clear e1 e2 e3
                go_wp2_with fail
                refine hc5.mono ?_
                rintro e w3 ⟨rfl, S3q⟩
                have S3 : Aside _ := S3q
                clear hc5 S3q
                go_wp2_with fail
                go_meet
                case rel => exact ⟨congrArg (Value.int .i64) (by have := E2.out; omega), by rw [hcode2], S3⟩
              · have hcode := hint_two hh
                obtain ⟨e1, e2, e3⟩ := ST.out.ndec hh
                have E1 : Aside (d2 = d1) := e1
                have E2 : Aside (pv = pc) := e2
                have E3 : Aside (ht = ph) := e3
                clear e1 e2 e3
                go_wp2_with fail
                go_meet
                case rel => exact ⟨by rw [E2.out], by rw [E3.out], by rw [E1.out]; exact S2⟩
            case rest =>
              clear S2
              obtain ⟨rfl, rfl, S3⟩ := hcut
              go_upto_region 15 with fail
              go_cut [12, 68] (fun vh vq wx => vh = .int .i64 (hintCode ht) ∧ vq = .bool (wb && wp && decide (ht = .increasing)) ∧ wx = wc)
              case first =>
                cases wb <;> cases wp <;> cases hh3 : ht <;>
                  (have hcode3 := congrArg hintCode hh3
                   simp only [hintCode] at hcode3
                   go_wp2_with fail
                   go_meet
                   exact ⟨by simp [hh3, hintCode], by simp [hh3, hintCode], rfl⟩)
              case rest =>
                obtain ⟨rfl, rfl, rfl⟩ := hcut
                go_upto_if 68 with fail
                go_cut [] (fun wx => pb = false ∧ Aside (St1 eFl w0 blk off d3 wx))
                case first =>
                  cases hq : (wb && wp && decide (ht = .increasing)) with
                  | false =>
                    obtain ⟨e1, e2⟩ := ST.out.no hq
                    have E1 : Aside (d3 = d2) := e1
                    clear e1
                    go_wp2_with fail
                    go_meet
                    case rel => exact ⟨e2, by rw [E1.out]; exact S3⟩
                  | true =>
                    have e1 := ST.out.yes hq
                    have hc6 := partialInsertionSort_x w0 blk off cap n d2 wc S3.out hs2 hsz lo hi (by omega) hyn
                    rw [e1] at hc6
                    dsimp only at hc6
                    clear e1
                    go_wp2_with fail
                    refine hc6.mono ?_
                    rintro e w4 ⟨rfl, S4q⟩
                    have S4 : Aside _ := S4q
                    clear hc6 S4q
                    cases hpb : pb with
                    | false =>
                      go_wp2_with fail
                      go_meet
                      case rel => exact ⟨hpb, S4⟩
                    | true =>
                      go_wp2_with fail
                      (try simp only [Exit.inBlock, Exit.then]); refine bodyPost_ret (results_none rfl _ _ _) rfl ?_
                      exact ⟨rfl, by rw [← HO.out, ST.out.fin hpb]; exact S4.out⟩
                case rest =>
                  clear S3
                  obtain ⟨hpb, S4⟩ := hcut
                  rcases Nat.eq_zero_or_pos lo with hx0 | hx0
                  · have hx0z : decide ((0 : Int) < (lo : Int)) = false := by refine decide_eq_false ?_; omega
                    have hx0n : decide (0 < lo) = false := by refine decide_eq_false ?_; omega
                    have HX0 : Aside (lo = 0) := hx0
                    clear hx0
                    go_wp2_with fail
                    go_quiet (fail)
                    have S6 : Aside _ := S4.out.drewN nq
                    generalize wc.drewN nq = w6 at S6 ⊢
                    clear nq
                    clear hx0z hx0n
                    obtain ⟨⟨mid, ap, d4⟩, hx⟩ : ∃ z, z = partition ltFl d3 lo hi pv := ⟨_, rfl⟩
                    obtain ⟨r1, r2, r3, r4, r5⟩ := ST.out.part hpb (Or.inl HX0.out) mid ap d4 hx.symm
                    have R4 : Aside _ := r4
                    have R5 : Aside _ := r5
                    have hs4 := r3.trans hsk
                    have hc7 := partition_x w0 blk off cap n d3 w6 S6.out hs3 hsz lo hi pv hp1 hp2 hyn
                    rw [← hx] at hc7
                    dsimp only at hc7
                    clear hx r4 r5 r3
                    go_wp2_with fail
                    refine hc7.mono ?_
                    rintro e w7 ⟨rfl, S7q⟩
                    have S7 : Aside _ := S7q
                    clear hc7 S7q
                    by_cases h4 : mid - lo < hi - mid
                    · have h4z : (mid : Int) - (lo : Int) < (hi : Int) - (mid : Int) := by omega
                      have E8 := eighths (x := hi) (y := lo) r1 hxy
                      have hc40 := IH.out lo mid l1 d4 w7 (by omega) S7.out hs4 (by omega) (by omega) (by omega)
                      have hs5 := (pdq_size ltFl d4 lo mid l1 true true (by omega) (by omega)).trans hs4
                      go_wp2_with fail
                      refine hc40.mono ?_
                      rintro e w8 ⟨rfl, S8q⟩
                      have S8 : Aside _ := S8q
                      clear hc40 S8q
                      go_wp2_with fail
                      go_roundg (hi - (mid + 1))
                      case measure => omega
                      case rel => exact ⟨mid + 1, hi, l1, decide (mid - lo ≥ (hi - lo) / 8), ap, _, by go_num, by go_num, by go_num, (by first | rfl | exact congrArg Value.bool E8), rfl, by omega, by omega, Nat.le_refl _, by omega, by omega, hs5, S8, (R4.out h4).symm.trans HO.out⟩
                    · have h4z : ¬ (mid : Int) - (lo : Int) < (hi : Int) - (mid : Int) := by omega
                      have E8 := eighths (x := hi) (y := lo) (Nat.le_of_lt r2) hxy
                      have hc40 := IH.out (mid + 1) hi l1 d4 w7 (by omega) S7.out hs4 (by omega) (by omega) (by omega)
                      have hs5 := (pdq_size ltFl d4 (mid + 1) hi l1 true true (by omega) (by omega)).trans hs4
                      rw [show ((mid + 1 : Nat) : Int) = (mid : Int) + 1 by omega] at hc40
                      go_wp2_with fail
                      refine hc40.mono ?_
                      rintro e w8 ⟨rfl, S8q⟩
                      have S8 : Aside _ := S8q
                      clear hc40 S8q
                      go_wp2_with fail
                      go_roundg (mid - lo)
                      case measure => omega
                      case rel => exact ⟨lo, mid, l1, decide (hi - mid ≥ (hi - lo) / 8), ap, _, by go_num, by go_num, by go_num, (by first | rfl | exact congrArg Value.bool E8), rfl, by omega, by omega, Nat.le_refl _, by omega, by omega, hs5, S8, (R5.out h4).symm.trans HO.out⟩
                  · obtain ⟨lp, hlp⟩ : ∃ lp, lo = lp + 1 := ⟨lo - 1, by omega⟩
                    have hx0z : (0 : Int) < (lo : Int) := by omega
                    have bi8 : (lo : Int) - 1 < (n : Int) := by omega
                    have pi8 : (0 : Int) ≤ (lo : Int) - 1 := by omega
                    have ei8 : ((lo : Int) - 1).toNat = lp := by omega
                    have bj8 : (pv : Int) < (n : Int) := by omega
                    obtain ⟨x, hx⟩ : ∃ x, x = d3[lp]! := ⟨_, rfl⟩
                    obtain ⟨y, hy⟩ : ∃ y, y = d3[pv]! := ⟨_, rfl⟩
                    have c1 : wc.cell? ⟨blk, off + (lp), none⟩ = some (.float .f64 x) := by rw [hx]; exact S4.out.cell (by omega)
                    have c2 : wc.cell? ⟨blk, off + (pv), none⟩ = some (.float .f64 y) := by rw [hy]; exact S4.out.cell (by omega)
                    have hless : ∀ c W, ltFl x y = c → Calls Try.prog 124 #[.float .f64 x, .float .f64 y] W fun e w' => e = .returned (.bool c) ∧ w' = W := fun c W hc => by rw [← hc]; exact less_x x y W
                    obtain ⟨c, hc⟩ : ∃ c, c = ltFl x y := ⟨_, rfl⟩
                    have HV : Aside (ltFl d3[lp]! d3[pv]! = c) := by show ltFl _ _ = _; rw [← hx, ← hy, hc]
                    replace hless := fun W => hless c W hc.symm
                    clear hx hy hc
                    have HLP : Aside (lo = lp + 1) := hlp
                    clear hlp
                    cases c with
                    | true =>
                      have HV' : Aside _ := HV
                      clear HV
                      go_wp2_with fail
                      go_quiet (first | (go_at_call 124; refine Calls.quiet_of_same (hless _)))
                      have S6 : Aside _ := S4.out.drewN nq
                      clear c1 c2 hless
                      generalize wc.drewN nq = w6 at S6 ⊢
                      clear nq
                      clear bi8 pi8 ei8 bj8
                      clear hx0z
                      have HV2 : Aside (ltFl d3[lo - 1]! d3[pv]! = true) := by show _ = _; rw [HLP.out, Nat.add_sub_cancel]; exact HV'.out
                      obtain ⟨⟨mid, ap, d4⟩, hx⟩ : ∃ z, z = partition ltFl d3 lo hi pv := ⟨_, rfl⟩
                      obtain ⟨r1, r2, r3, r4, r5⟩ := ST.out.part hpb (Or.inr HV2.out) mid ap d4 hx.symm
                      have R4 : Aside _ := r4
                      have R5 : Aside _ := r5
                      have hs4 := r3.trans hsk
                      have hc9 := partition_x w0 blk off cap n d3 w6 S6.out hs3 hsz lo hi pv hp1 hp2 hyn
                      rw [← hx] at hc9
                      dsimp only at hc9
                      clear hx r4 r5 r3
                      go_wp2_with fail
                      refine hc9.mono ?_
                      rintro e w7 ⟨rfl, S7q⟩
                      have S7 : Aside _ := S7q
                      clear hc9 S7q
                      by_cases h4 : mid - lo < hi - mid
                      · have h4z : (mid : Int) - (lo : Int) < (hi : Int) - (mid : Int) := by omega
                        have E8 := eighths (x := hi) (y := lo) r1 hxy
                        have hc40 := IH.out lo mid l1 d4 w7 (by omega) S7.out hs4 (by omega) (by omega) (by omega)
                        have hs5 := (pdq_size ltFl d4 lo mid l1 true true (by omega) (by omega)).trans hs4
                        go_wp2_with fail
                        refine hc40.mono ?_
                        rintro e w8 ⟨rfl, S8q⟩
                        have S8 : Aside _ := S8q
                        clear hc40 S8q
                        go_wp2_with fail
                        go_roundg (hi - (mid + 1))
                        case measure => omega
                        case rel => exact ⟨mid + 1, hi, l1, decide (mid - lo ≥ (hi - lo) / 8), ap, _, by go_num, by go_num, by go_num, (by first | rfl | exact congrArg Value.bool E8), rfl, by omega, by omega, Nat.le_refl _, by omega, by omega, hs5, S8, (R4.out h4).symm.trans HO.out⟩
                      · have h4z : ¬ (mid : Int) - (lo : Int) < (hi : Int) - (mid : Int) := by omega
                        have E8 := eighths (x := hi) (y := lo) (Nat.le_of_lt r2) hxy
                        have hc40 := IH.out (mid + 1) hi l1 d4 w7 (by omega) S7.out hs4 (by omega) (by omega) (by omega)
                        have hs5 := (pdq_size ltFl d4 (mid + 1) hi l1 true true (by omega) (by omega)).trans hs4
                        rw [show ((mid + 1 : Nat) : Int) = (mid : Int) + 1 by omega] at hc40
                        go_wp2_with fail
                        refine hc40.mono ?_
                        rintro e w8 ⟨rfl, S8q⟩
                        have S8 : Aside _ := S8q
                        clear hc40 S8q
                        go_wp2_with fail
                        go_roundg (mid - lo)
                        case measure => omega
                        case rel => exact ⟨lo, mid, l1, decide (hi - mid ≥ (hi - lo) / 8), ap, _, by go_num, by go_num, by go_num, (by first | rfl | exact congrArg Value.bool E8), rfl, by omega, by omega, Nat.le_refl _, by omega, by omega, hs5, S8, (R5.out h4).symm.trans HO.out⟩
                    | false =>
                      have HV' : Aside _ := HV
                      clear HV
                      go_wp2_with fail
                      go_quiet (first | (go_at_call 124; refine Calls.quiet_of_same (hless _)))
                      have S6 : Aside _ := S4.out.drewN nq
                      clear c1 c2 hless
                      generalize wc.drewN nq = w6 at S6 ⊢
                      clear nq
                      clear bi8 pi8 ei8 bj8
                      clear hx0z
                      have HV2 : Aside (ltFl d3[lo - 1]! d3[pv]! = false) := by show _ = _; rw [HLP.out, Nat.add_sub_cancel]; exact HV'.out
                      obtain ⟨⟨mid, d4⟩, hx⟩ : ∃ z, z = partitionEqual ltFl d3 lo hi pv := ⟨_, rfl⟩
                      obtain ⟨r1, r2, r3, r4⟩ := ST.out.same hpb hx0 HV2.out mid d4 hx.symm
                      have R4 : Aside _ := r4
                      have hs4 := r3.trans hsk
                      have hc10 := partitionEqual_x w0 blk off cap n d3 w6 S6.out hs3 hsz lo hi pv hp1 hp2 hyn
                      rw [← hx] at hc10
                      dsimp only at hc10
                      clear hx r4 r3
                      go_wp2_with fail
                      refine hc10.mono ?_
                      rintro e w7 ⟨rfl, S7q⟩
                      have S7 : Aside _ := S7q
                      clear hc10 S7q
                      go_wp2_with fail
                      go_roundg (hi - mid)
                      case measure => omega
                      case rel => exact ⟨mid, hi, l1, wb, wp, d4, rfl, rfl, rfl, rfl, rfl, by omega, by omega, Nat.le_refl _, by omega, by omega, hs4, S7, R4.out.symm.trans HO.out⟩
end Go.Proofs.Ytglgmkikegbchaa
