/- siftDown: the text over an Interface. -/
import Derived.Test.YtglgmkikegbchaaGreatWf0
import Derived.Test.YtglgmkikegbchaaGreatPb
namespace Go.Proofs.YtglgmkikegbchaaGreat
open Go.RowKit Go.Sort

set_option maxHeartbeats 4000000 in
set_option maxRecDepth 1000000 in
theorem siftDown_f (T : TypeId) (rv : Value) (lt : It → It → Bool) (gl gs : Nat) (rl rs : Value) (w0 : World) (blk off n : Nat) (F : FaceOk T rv lt w0 blk off n gl gs rl rs) (d : Array It) (w : World) (S : St2 w0 blk off d w) (hn : d.size = n) (hsz : n < 4611686018427387904) (lo hi first : Nat) (hlo : lo ≤ n) (hfh : first + hi ≤ n) :
    Calls Tryz.prog 140 #[.iface T rv, .int .i64 lo, .int .i64 hi, .int .i64 first] w fun e w' =>
      e = .returned (.tuple #[]) ∧ St2 w0 blk off (siftDown lt hi first lo d) w' := by
  have eL := F.eL
  have eS := F.eS
  have S0 : Aside (St2 w0 blk off d w) := S
  clear S
  go_enter Tryz.func140, Tryz.ntmps140
  go_wp2
  go_loopg [8] (hi - lo) (fun g vi wr => ∃ (r : Nat) (dk : Array It), vi = .int .i64 r ∧ r ≤ n ∧ hi - r ≤ g ∧ dk.size = n ∧ Aside (St2 w0 blk off dk wr) ∧ Hid (siftDown lt hi first r dk = siftDown lt hi first lo d))
  case atStart => exact ⟨lo, d, rfl, hlo, Nat.le_refl _, hn, S0, rfl⟩
  case round =>
    obtain ⟨r, dk, rfl, hrn, hg, hsk, Sk, HO⟩ := hrel
    by_cases hend : hi ≤ 2 * r + 1
    · have hendz : (hi : Int) ≤ 2 * (r : Int) + 1 := by omega
      go_wp2_with fail
      go_end0
      exact ⟨rfl, by rw [← HO.out, sift_end _ _ _ _ hend]; exact Sk.out⟩
    · have hendz : ¬ (hi : Int) ≤ 2 * (r : Int) + 1 := by omega
      have mL := F.methL _ wr Sk.out
      have mS := F.methS _ wr Sk.out
      by_cases hrt : 2 * r + 2 < hi
      · have hrtz : 2 * (r : Int) + 1 + 1 < (hi : Int) := by omega
        have hl := F.less dk wr (first + (2 * r + 1)) (first + (2 * r + 1) + 1) (by omega) Sk.out (by omega) (by omega)
        rw [show ((first + (2 * r + 1) : Nat) : Int) = (first : Int) + (2 * (r : Int) + 1) by omega] at hl
        rw [show ((first + (2 * r + 1) + 1 : Nat) : Int) = (first : Int) + (2 * (r : Int) + 1) + 1 by omega] at hl
        obtain ⟨c, hc⟩ : ∃ c, c = lt dk[first + (2 * r + 1)]! dk[first + (2 * r + 1) + 1]! := ⟨_, rfl⟩
        rw [← hc] at hl
        have HV : Aside (lt dk[first + (2 * r + 1)]! dk[first + (2 * r + 1) + 1]! = c) := hc.symm
        clear hc
        cases c with
        | true =>
          have HV' : Aside _ := HV
          clear HV
          go_wp2_with fail
          refine hl.mono ?_
          rintro e w' ⟨rfl, q, os, rfl⟩
          have S2 : Aside _ := Sk.out.grow q os
          clear mL mS hl
          generalize grow (wr.drewN q) os = w2 at S2 ⊢
          clear q os
          have mL := F.methL _ w2 S2.out
          have mS := F.methS _ w2 S2.out
          have hl := F.less dk w2 (first + r) (first + (2 * r + 2)) (by omega) S2.out (by omega) (by omega)
          rw [show ((first + r : Nat) : Int) = (first : Int) + (r : Int) by omega] at hl
          rw [show ((first + (2 * r + 2) : Nat) : Int) = (first : Int) + (2 * (r : Int) + 1 + 1) by omega] at hl
          obtain ⟨c, hc⟩ : ∃ c, c = lt dk[first + r]! dk[first + (2 * r + 2)]! := ⟨_, rfl⟩
          rw [← hc] at hl
          have HU : Aside (lt dk[first + r]! dk[first + (2 * r + 2)]! = c) := hc.symm
          clear hc
          cases c with
          | true =>
            have HU' : Aside _ := HU
            clear HU
            go_wp2_with fail
            refine hl.mono ?_
            rintro e w' ⟨rfl, q, os, rfl⟩
            have S5 : Aside _ := S2.out.grow q os
            clear mL mS hl
            generalize grow (w2.drewN q) os = w5 at S5 ⊢
            clear q os
            have mL := F.methL _ w5 S5.out
            have mS := F.methS _ w5 S5.out
            have hs := F.swap dk w5 (first + r) (first + (2 * r + 2)) (by omega) S5.out (by omega) (by omega)
            rw [show ((first + r : Nat) : Int) = (first : Int) + (r : Int) by omega] at hs
            rw [show ((first + (2 * r + 2) : Nat) : Int) = (first : Int) + (2 * (r : Int) + 1 + 1) by omega] at hs
            go_wp2_with fail
            refine hs.mono ?_
            rintro e w6 ⟨rfl, S6q, hgr⟩
            have S6 : Aside _ := S6q
            clear mL mS hs hgr S6q
            have mL := F.methL _ w6 S6.out
            have mS := F.methS _ w6 S6.out
            go_wp2_with fail
            go_roundg (hi - (2 * r + 2))
            case measure => omega
            case rel => exact ⟨2 * r + 2, swp dk (first + r) (first + (2 * r + 2)), by go_num, by omega, by omega, by rw [size_swp]; exact hsk, S6, (sift_right_go _ _ _ _ hrt HV'.out HU'.out).symm.trans HO.out⟩
          | false =>
            have HU' : Aside _ := HU
            clear HU
            go_wp2_with fail
            refine hl.mono ?_
            rintro e w' ⟨rfl, q, os, rfl⟩
            have S5 : Aside _ := S2.out.grow q os
            clear mL mS hl
            generalize grow (w2.drewN q) os = w5 at S5 ⊢
            clear q os
            have mL := F.methL _ w5 S5.out
            have mS := F.methS _ w5 S5.out
            go_wp2_with fail
            (try simp only [Exit.inBlock, Exit.then]); refine bodyPost_ret (results_none rfl _ _ _) rfl ?_
            exact ⟨rfl, by rw [← HO.out, sift_right_stop _ _ _ _ hrt HV'.out HU'.out]; exact S5.out⟩
        | false =>
          have HV' : Aside _ := HV
          clear HV
          go_wp2_with fail
          refine hl.mono ?_
          rintro e w' ⟨rfl, q, os, rfl⟩
          have S2 : Aside _ := Sk.out.grow q os
          clear mL mS hl
          generalize grow (wr.drewN q) os = w2 at S2 ⊢
          clear q os
          have mL := F.methL _ w2 S2.out
          have mS := F.methS _ w2 S2.out
          have hl := F.less dk w2 (first + r) (first + (2 * r + 1)) (by omega) S2.out (by omega) (by omega)
          rw [show ((first + r : Nat) : Int) = (first : Int) + (r : Int) by omega] at hl
          rw [show ((first + (2 * r + 1) : Nat) : Int) = (first : Int) + (2 * (r : Int) + 1) by omega] at hl
          obtain ⟨c, hc⟩ : ∃ c, c = lt dk[first + r]! dk[first + (2 * r + 1)]! := ⟨_, rfl⟩
          rw [← hc] at hl
          have HU : Aside (lt dk[first + r]! dk[first + (2 * r + 1)]! = c) := hc.symm
          clear hc
          cases c with
          | true =>
            have HU' : Aside _ := HU
            clear HU
            go_wp2_with fail
            refine hl.mono ?_
            rintro e w' ⟨rfl, q, os, rfl⟩
            have S5 : Aside _ := S2.out.grow q os
            clear mL mS hl
            generalize grow (w2.drewN q) os = w5 at S5 ⊢
            clear q os
            have mL := F.methL _ w5 S5.out
            have mS := F.methS _ w5 S5.out
            have hs := F.swap dk w5 (first + r) (first + (2 * r + 1)) (by omega) S5.out (by omega) (by omega)
            rw [show ((first + r : Nat) : Int) = (first : Int) + (r : Int) by omega] at hs
            rw [show ((first + (2 * r + 1) : Nat) : Int) = (first : Int) + (2 * (r : Int) + 1) by omega] at hs
            go_wp2_with fail
            refine hs.mono ?_
            rintro e w6 ⟨rfl, S6q, hgr⟩
            have S6 : Aside _ := S6q
            clear mL mS hs hgr S6q
            have mL := F.methL _ w6 S6.out
            have mS := F.methS _ w6 S6.out
            go_wp2_with fail
            go_roundg (hi - (2 * r + 1))
            case measure => omega
            case rel => exact ⟨2 * r + 1, swp dk (first + r) (first + (2 * r + 1)), by go_num, by omega, by omega, by rw [size_swp]; exact hsk, S6, (sift_left_go _ _ _ _ (by omega) (Or.inr HV'.out) HU'.out).symm.trans HO.out⟩
          | false =>
            have HU' : Aside _ := HU
            clear HU
            go_wp2_with fail
            refine hl.mono ?_
            rintro e w' ⟨rfl, q, os, rfl⟩
            have S5 : Aside _ := S2.out.grow q os
            clear mL mS hl
            generalize grow (w2.drewN q) os = w5 at S5 ⊢
            clear q os
            have mL := F.methL _ w5 S5.out
            have mS := F.methS _ w5 S5.out
            go_wp2_with fail
            (try simp only [Exit.inBlock, Exit.then]); refine bodyPost_ret (results_none rfl _ _ _) rfl ?_
            exact ⟨rfl, by rw [← HO.out, sift_left_stop _ _ _ _ (by omega) (Or.inr HV'.out) HU'.out]; exact S5.out⟩
      · have hrtz : ¬ 2 * (r : Int) + 1 + 1 < (hi : Int) := by omega
        have hl := F.less dk wr (first + r) (first + (2 * r + 1)) (by omega) Sk.out (by omega) (by omega)
        rw [show ((first + r : Nat) : Int) = (first : Int) + (r : Int) by omega] at hl
        rw [show ((first + (2 * r + 1) : Nat) : Int) = (first : Int) + (2 * (r : Int) + 1) by omega] at hl
        obtain ⟨c, hc⟩ : ∃ c, c = lt dk[first + r]! dk[first + (2 * r + 1)]! := ⟨_, rfl⟩
        rw [← hc] at hl
        have HU : Aside (lt dk[first + r]! dk[first + (2 * r + 1)]! = c) := hc.symm
        clear hc
        cases c with
        | true =>
          have HU' : Aside _ := HU
          clear HU
          go_wp2_with fail
          refine hl.mono ?_
          rintro e w' ⟨rfl, q, os, rfl⟩
          have S5 : Aside _ := Sk.out.grow q os
          clear mL mS hl
          generalize grow (wr.drewN q) os = w5 at S5 ⊢
          clear q os
          have mL := F.methL _ w5 S5.out
          have mS := F.methS _ w5 S5.out
          have hs := F.swap dk w5 (first + r) (first + (2 * r + 1)) (by omega) S5.out (by omega) (by omega)
          rw [show ((first + r : Nat) : Int) = (first : Int) + (r : Int) by omega] at hs
          rw [show ((first + (2 * r + 1) : Nat) : Int) = (first : Int) + (2 * (r : Int) + 1) by omega] at hs
          go_wp2_with fail
          refine hs.mono ?_
          rintro e w6 ⟨rfl, S6q, hgr⟩
          have S6 : Aside _ := S6q
          clear mL mS hs hgr S6q
          have mL := F.methL _ w6 S6.out
          have mS := F.methS _ w6 S6.out
          go_wp2_with fail
          go_roundg (hi - (2 * r + 1))
          case measure => omega
          case rel => exact ⟨2 * r + 1, swp dk (first + r) (first + (2 * r + 1)), by go_num, by omega, by omega, by rw [size_swp]; exact hsk, S6, (sift_left_go _ _ _ _ (by omega) (Or.inl hrt) HU'.out).symm.trans HO.out⟩
        | false =>
          have HU' : Aside _ := HU
          clear HU
          go_wp2_with fail
          refine hl.mono ?_
          rintro e w' ⟨rfl, q, os, rfl⟩
          have S5 : Aside _ := Sk.out.grow q os
          clear mL mS hl
          generalize grow (wr.drewN q) os = w5 at S5 ⊢
          clear q os
          have mL := F.methL _ w5 S5.out
          have mS := F.methS _ w5 S5.out
          go_wp2_with fail
          (try simp only [Exit.inBlock, Exit.then]); refine bodyPost_ret (results_none rfl _ _ _) rfl ?_
          exact ⟨rfl, by rw [← HO.out, sift_left_stop _ _ _ _ (by omega) (Or.inl hrt) HU'.out]; exact S5.out⟩
end Go.Proofs.YtglgmkikegbchaaGreat
