/- partialInsertionSort: the text over an Interface. -/
import Derived.Test.YtglgmkikegbchaaWf0
import Derived.Test.YtglgmkikegbchaaPb
import Derived.Deep.CutBlock
import Derived.Deep.DeepCutAuto
import Derived.Sort.WalkC4
import Derived.Sort.WalkC
import Derived.Sort.WalkA6
namespace Go.Proofs.Ytglgmkikegbchaa
open Go.RowKit Go.Sort

set_option maxHeartbeats 16000000 in
set_option maxRecDepth 1000000 in
theorem partialInsertionSort_f (T : TypeId) (rv : Value) (lt : It → It → Bool) (gl gs : Nat) (rl rs : Value) (w0 : World) (blk off n : Nat) (F : FaceOk T rv lt w0 blk off n gl gs rl rs) (d : Array It) (w : World) (S : St2 w0 blk off d w) (hn : d.size = n) (hsz : n < 4611686018427387904) (a b : Nat) (hab : a < b) (hb : b ≤ n) :
    Calls Try.prog 110 #[.iface T rv, .int .i64 a, .int .i64 b] w fun e w' =>
      e = .returned (.bool (partialInsertionSort lt d a b).2) ∧ St2 w0 blk off (partialInsertionSort lt d a b).1 w' := by
  obtain ⟨R, hR⟩ : ∃ R, R = partialInsertionSort lt d a b := ⟨_, rfl⟩
  rw [← hR]
  have HR : Hid (partialIns lt a b (5 - 0) (a + 1) d = R) := hR.symm
  clear hR
  have eL := F.eL
  have eS := F.eS
  have S0 : Aside (St2 w0 blk off d w) := S
  clear S
  go_enter Try.func110, Try.ntmps110
  go_wp2_with fail
  go_loopg [7, 8] 5 (fun g vi vj wr => ∃ (i s : Nat) (dk : Array It), vi = .int .i64 i ∧ vj = .int .i64 s ∧ a < i ∧ i ≤ b ∧ s ≤ 5 ∧ 5 - s ≤ g ∧ dk.size = n ∧ Aside (St2 w0 blk off dk wr) ∧ Hid (partialIns lt a b (5 - s) i dk = R))
  case atStart => exact ⟨a + 1, 0, d, by go_num, by go_num, by omega, by omega, by omega, by omega, hn, S0, HR⟩
  case round =>
    clear S0
    obtain ⟨i, s, dk, rfl, rfl, hai, hib, hs5, hg, hsk, Sk, HO⟩ := hrel
    by_cases hs : s < 5
    · have hsz5 : (s : Int) < 5 := by omega
      go_upto_block 2 with fail
      go_cut [7] (fun vi wx => ∃ k : Nat, vi = .int .i64 k ∧ i ≤ k ∧ k ≤ b ∧ Aside (St2 w0 blk off dk wx) ∧ Hid (scanSorted lt dk b i = k))
      case first =>
        go_wp2_with fail
        go_loopg [7] (b - i) (fun g vk wr => ∃ k : Nat, vk = .int .i64 k ∧ i ≤ k ∧ k ≤ b ∧ b - k ≤ g ∧ Aside (St2 w0 blk off dk wr) ∧ Hid (scanSorted lt dk b k = scanSorted lt dk b i))
        case atStart => exact ⟨i, rfl, Nat.le_refl _, hib, Nat.le_refl _, Sk, rfl⟩
        case round =>
          clear Sk
          obtain ⟨k, rfl, hik, hkb, hgk, Sk, HS⟩ := hrel
          by_cases hkb' : k < b
          · obtain ⟨kp, rfl⟩ : ∃ kp, k = kp + 1 := ⟨k - 1, by omega⟩
            have hkz : (kp : Int) + 1 < (b : Int) := by omega
            have mL := F.methL _ wr Sk.out
            have mS := F.methS _ wr Sk.out
            have hl := F.less dk wr (kp + 1) (kp) (by omega) Sk.out (by omega) (by omega)
            rw [show ((kp + 1 : Nat) : Int) = (kp : Int) + 1 by omega] at hl
            obtain ⟨c, hc⟩ : ∃ c, c = lt dk[kp + 1]! dk[kp]! := ⟨_, rfl⟩
            rw [← hc] at hl
            have HV : Aside (lt dk[kp + 1]! dk[kp]! = c) := hc.symm
            clear hc
            cases c with
            | true =>
              have HV' : Aside _ := HV
              clear HV
              go_wp2_with fail
              refine hl.mono ?_
              rintro e w' ⟨rfl, q, os, rfl⟩
              have S2 : Aside _ := Sk.out.grow q os
              clear mL mS hl
              generalize grow (wr.drewN q) os = w2 at S2 ⊢
              clear q os
              have mL := F.methL _ w2 S2.out
              have mS := F.methS _ w2 S2.out
              go_wp2_with fail
              go_meet
              case rel => exact ⟨kp + 1, by go_num, hik, hkb, S2, HS.out.symm.trans (scanSorted_stop lt dk b (kp + 1) (Or.inr HV'.out))⟩
            | false =>
              have HV' : Aside _ := HV
              clear HV
              go_wp2_with fail
              refine hl.mono ?_
              rintro e w' ⟨rfl, q, os, rfl⟩
              have S2 : Aside _ := Sk.out.grow q os
              clear mL mS hl
              generalize grow (wr.drewN q) os = w2 at S2 ⊢
              clear q os
              have mL := F.methL _ w2 S2.out
              have mS := F.methS _ w2 S2.out
              go_wp2_with fail
              go_roundg (b - (kp + 1 + 1))
              case measure => omega
              case rel => exact ⟨kp + 1 + 1, by go_num, by omega, by omega, Nat.le_refl _, S2, (scanSorted_go lt dk b (kp + 1) hkb' HV'.out).symm.trans HS.out⟩
          · have hkz : ¬ (k : Int) < (b : Int) := by omega
            go_wp2_with fail
            go_meet
            case rel => exact ⟨k, by go_num, hik, hkb, Sk, HS.out.symm.trans (scanSorted_stop lt dk b k (Or.inl hkb'))⟩
      case rest =>
        clear Sk
        obtain ⟨k, rfl, hik, hkb, Sk, HK⟩ := hcut
        by_cases hke : k = b
        · subst hke
          have HF := HO.out.symm.trans (pi_true lt a k s i dk hs HK.out)
          have HF' : Hid _ := HF
          clear HF
          go_wp2_with fail
          (try simp only [Exit.inBlock, Exit.then]); refine bodyPost_ret (results_tmp rfl _ _ _) rfl ?_
          rw [HF'.out]
          exact ⟨rfl, Sk.out⟩
        · have hkez : ¬ (k : Int) = (b : Int) := by omega
          by_cases h50 : b - a < 50
          · have h50z : (b : Int) - (a : Int) < 50 := by omega
            have HF := HO.out.symm.trans (pi_short lt a b s i dk hs (by rw [HK.out]; exact hke) h50)
            have HF' : Hid _ := HF
            clear HF
            go_wp2_with fail
            (try simp only [Exit.inBlock, Exit.then]); refine bodyPost_ret (results_tmp rfl _ _ _) rfl ?_
            rw [HF'.out]
            exact ⟨rfl, Sk.out⟩
          · have h50z : ¬ (b : Int) - (a : Int) < 50 := by omega
            obtain ⟨kp, rfl⟩ : ∃ kp, k = kp + 1 := ⟨k - 1, by omega⟩
            have HP := HO.out.symm.trans (pi_go lt a b s i (kp + 1) dk hs HK.out hke h50)
            rw [Nat.add_sub_cancel] at HP
            have mL := F.methL _ wc Sk.out
            have mS := F.methS _ wc Sk.out
            have hs := F.swap dk wc (kp + 1) (kp) (by omega) Sk.out (by omega) (by omega)
            rw [show ((kp + 1 : Nat) : Int) = (kp : Int) + 1 by omega] at hs
            go_wp2_with fail
            refine hs.mono ?_
            rintro e w1 ⟨rfl, S1q, hgr⟩
            have S1 : Aside _ := S1q
            clear mL mS hs hgr S1q
            have mL := F.methL _ w1 S1.out
            have mS := F.methS _ w1 S1.out
            obtain ⟨d1, hd1⟩ : ∃ d1, d1 = swp dk (kp + 1) kp := ⟨_, rfl⟩
            have hsd1 : d1.size = n := by rw [hd1, size_swp]; exact hsk
            rw [← hd1] at S1 HP
            have HP' : Hid _ := HP
            clear HP hd1 Sk
            by_cases hdd : 2 ≤ kp + 1 - a
            · have hddz : 2 ≤ (kp : Int) + 1 - (a : Int) := by omega
              go_upto_block 4 with fail
              go_cut [9] (fun vj wx => ∃ (j : Nat) (dd : Array It), vj = .int .i64 j ∧ dd.size = n ∧ Aside (St2 w0 blk off dd wx) ∧ Hid (fixDown lt a (kp + 1) d1 = dd))
              case first =>
                go_wp2_with fail
                go_loopg [9] (kp) (fun g vj wr => ∃ (j : Nat) (dj : Array It), vj = .int .i64 j ∧ j ≤ kp ∧ j ≤ g ∧ dj.size = n ∧ Aside (St2 w0 blk off dj wr) ∧ Hid (shiftDown lt j dj = shiftDown lt kp d1))
                case atStart => exact ⟨kp, d1, by go_num, Nat.le_refl _, Nat.le_refl _, hsd1, S1, rfl⟩
                case round =>
                  clear S1
                  obtain ⟨j, dj, rfl, hjk, hg, hsj, Sj, HJ⟩ := hrel
                  by_cases hj : 1 ≤ j
                  · obtain ⟨jp, rfl⟩ : ∃ jp, j = jp + 1 := ⟨j - 1, by omega⟩
                    have hjz : 1 ≤ (jp : Int) + 1 := by omega
                    have mL := F.methL _ wr Sj.out
                    have mS := F.methS _ wr Sj.out
                    have hl := F.less dj wr (jp + 1) (jp) (by omega) Sj.out (by omega) (by omega)
                    rw [show ((jp + 1 : Nat) : Int) = (jp : Int) + 1 by omega] at hl
                    obtain ⟨c, hc⟩ : ∃ c, c = lt dj[jp + 1]! dj[jp]! := ⟨_, rfl⟩
                    rw [← hc] at hl
                    have HV : Aside (lt dj[jp + 1]! dj[jp]! = c) := hc.symm
                    clear hc
                    cases c with
                    | true =>
                      have HV' : Aside _ := HV
                      clear HV
                      go_wp2_with fail
                      refine hl.mono ?_
                      rintro e w' ⟨rfl, q, os, rfl⟩
                      have S2 : Aside _ := Sj.out.grow q os
                      clear mL mS hl
                      generalize grow (wr.drewN q) os = w2 at S2 ⊢
                      clear q os
                      have mL := F.methL _ w2 S2.out
                      have mS := F.methS _ w2 S2.out
                      have hs := F.swap dj w2 (jp + 1) (jp) (by omega) S2.out (by omega) (by omega)
                      rw [show ((jp + 1 : Nat) : Int) = (jp : Int) + 1 by omega] at hs
                      go_wp2_with fail
                      refine hs.mono ?_
                      rintro e w3 ⟨rfl, S3q, hgr⟩
                      have S3 : Aside _ := S3q
                      clear mL mS hs hgr S3q
                      have mL := F.methL _ w3 S3.out
                      have mS := F.methS _ w3 S3.out
                      go_wp2_with fail
                      go_roundg jp
                      case measure => omega
                      case rel => exact ⟨jp, swp dj (jp + 1) jp, by go_num, by omega, Nat.le_refl _, by rw [size_swp]; exact hsj, S3, (shiftDown_go lt (jp + 1) dj (by omega) HV'.out).symm.trans HJ.out⟩
                    | false =>
                      have HV' : Aside _ := HV
                      clear HV
                      go_wp2_with fail
                      refine hl.mono ?_
                      rintro e w' ⟨rfl, q, os, rfl⟩
                      have S2 : Aside _ := Sj.out.grow q os
                      clear mL mS hl
                      generalize grow (wr.drewN q) os = w2 at S2 ⊢
                      clear q os
                      have mL := F.methL _ w2 S2.out
                      have mS := F.methS _ w2 S2.out
                      go_wp2_with fail
                      go_meet
                      case rel => exact ⟨jp + 1, dj, by go_num, hsj, S2, by show _ = _; unfold fixDown; rw [if_pos hdd]; exact HJ.out.symm.trans (shiftDown_stop lt (jp + 1) dj (Or.inr HV'.out))⟩
                  · have hjz : ¬ 1 ≤ (j : Int) := by omega
                    go_wp2_with fail
                    go_meet
                    case rel => exact ⟨j, dj, by go_num, hsj, Sj, by show _ = _; unfold fixDown; rw [if_pos hdd]; exact HJ.out.symm.trans (shiftDown_stop lt j dj (Or.inl (by omega)))⟩
              case rest =>
                clear S1
                obtain ⟨j, dd, rfl, hsdd, Sdd, HD⟩ := hcut
                by_cases hdu : 2 ≤ b - (kp + 1)
                · have hduz : 2 ≤ (b : Int) - ((kp : Int) + 1) := by omega
                  go_wp2_with fail
                  go_loopg [10] (b - (kp + 2)) (fun g vj wr => ∃ (j : Nat) (dj : Array It), vj = .int .i64 j ∧ kp + 2 ≤ j ∧ j ≤ b ∧ b - j ≤ g ∧ dj.size = n ∧ Aside (St2 w0 blk off dj wr) ∧ Hid (shiftUp lt b j dj = shiftUp lt b (kp + 2) dd))
                  case atStart => exact ⟨(kp + 2), dd, by go_num, Nat.le_refl _, by omega, Nat.le_refl _, hsdd, Sdd, rfl⟩
                  case round =>
                    clear Sdd
                    obtain ⟨j, dj, rfl, hkj, hjb, hg, hsj, Sj, HJ⟩ := hrel
                    by_cases hj : j < b
                    · obtain ⟨jp, rfl⟩ : ∃ jp, j = jp + 1 := ⟨j - 1, by omega⟩
                      have hjz : (jp : Int) + 1 < (b : Int) := by omega
                      have mL := F.methL _ wr Sj.out
                      have mS := F.methS _ wr Sj.out
                      have hl := F.less dj wr (jp + 1) (jp) (by omega) Sj.out (by omega) (by omega)
                      rw [show ((jp + 1 : Nat) : Int) = (jp : Int) + 1 by omega] at hl
                      obtain ⟨c, hc⟩ : ∃ c, c = lt dj[jp + 1]! dj[jp]! := ⟨_, rfl⟩
                      rw [← hc] at hl
                      have HV : Aside (lt dj[jp + 1]! dj[jp]! = c) := hc.symm
                      clear hc
                      cases c with
                      | true =>
                        have HV' : Aside _ := HV
                        clear HV
                        go_wp2_with fail
                        refine hl.mono ?_
                        rintro e w' ⟨rfl, q, os, rfl⟩
                        have S2 : Aside _ := Sj.out.grow q os
                        clear mL mS hl
                        generalize grow (wr.drewN q) os = w2 at S2 ⊢
                        clear q os
                        have mL := F.methL _ w2 S2.out
                        have mS := F.methS _ w2 S2.out
                        have hs := F.swap dj w2 (jp + 1) (jp) (by omega) S2.out (by omega) (by omega)
                        rw [show ((jp + 1 : Nat) : Int) = (jp : Int) + 1 by omega] at hs
                        go_wp2_with fail
                        refine hs.mono ?_
                        rintro e w3 ⟨rfl, S3q, hgr⟩
                        have S3 : Aside _ := S3q
                        clear mL mS hs hgr S3q
                        have mL := F.methL _ w3 S3.out
                        have mS := F.methS _ w3 S3.out
                        go_wp2_with fail
                        go_roundg (b - (jp + 1 + 1))
                        case measure => omega
                        case rel => exact ⟨jp + 1 + 1, swp dj (jp + 1) jp, by go_num, by omega, by omega, Nat.le_refl _, by rw [size_swp]; exact hsj, S3, (shiftUp_go lt b (jp + 1) dj hj HV'.out).symm.trans HJ.out⟩
                      | false =>
                        have HV' : Aside _ := HV
                        clear HV
                        go_wp2_with fail
                        refine hl.mono ?_
                        rintro e w' ⟨rfl, q, os, rfl⟩
                        have S2 : Aside _ := Sj.out.grow q os
                        clear mL mS hl
                        generalize grow (wr.drewN q) os = w2 at S2 ⊢
                        clear q os
                        have mL := F.methL _ w2 S2.out
                        have mS := F.methS _ w2 S2.out
                        have HU : Hid (fixUp lt b (kp + 1) dd = dj) := by show _ = _; unfold fixUp; rw [if_pos hdu]; exact HJ.out.symm.trans (shiftUp_stop lt b (jp + 1) dj (Or.inr HV'.out))
                        go_wp2_with fail
                        go_roundg (5 - (s + 1))
                        case measure => omega
                        case rel => exact ⟨kp + 1, s + 1, dj, by go_num, by go_num, by omega, by omega, by omega, Nat.le_refl _, hsj, S2, by show _ = _; rw [HP'.out, HD.out, HU.out]⟩
                    · have hjz : ¬ (j : Int) < (b : Int) := by omega
                      have HU : Hid (fixUp lt b (kp + 1) dd = dj) := by show _ = _; unfold fixUp; rw [if_pos hdu]; exact HJ.out.symm.trans (shiftUp_stop lt b j dj (Or.inl hj))
                      go_wp2_with fail
                      go_roundg (5 - (s + 1))
                      case measure => omega
                      case rel => exact ⟨kp + 1, s + 1, dj, by go_num, by go_num, by omega, by omega, by omega, Nat.le_refl _, hsj, Sj, by show _ = _; rw [HP'.out, HD.out, HU.out]⟩
                · have hduz : ¬ 2 ≤ (b : Int) - ((kp : Int) + 1) := by omega
                  have HU : Hid (fixUp lt b (kp + 1) dd = dd) := by show _ = _; unfold fixUp; rw [if_neg hdu]
                  go_wp2_with fail
                  go_roundg (5 - (s + 1))
                  case measure => omega
                  case rel => exact ⟨kp + 1, s + 1, dd, by go_num, by go_num, by omega, by omega, by omega, Nat.le_refl _, hsdd, Sdd, by show _ = _; rw [HP'.out, HD.out, HU.out]⟩
            · have hddz : ¬ 2 ≤ (kp : Int) + 1 - (a : Int) := by omega
              have HD : Hid (fixDown lt a (kp + 1) d1 = d1) := by show _ = _; unfold fixDown; rw [if_neg hdd]
              by_cases hdu : 2 ≤ b - (kp + 1)
              · have hduz : 2 ≤ (b : Int) - ((kp : Int) + 1) := by omega
                go_wp2_with fail
                go_loopg [10] (b - (kp + 2)) (fun g vj wr => ∃ (j : Nat) (dj : Array It), vj = .int .i64 j ∧ kp + 2 ≤ j ∧ j ≤ b ∧ b - j ≤ g ∧ dj.size = n ∧ Aside (St2 w0 blk off dj wr) ∧ Hid (shiftUp lt b j dj = shiftUp lt b (kp + 2) d1))
                case atStart => exact ⟨(kp + 2), d1, by go_num, Nat.le_refl _, by omega, Nat.le_refl _, hsd1, S1, rfl⟩
                case round =>
                  clear S1
                  obtain ⟨j, dj, rfl, hkj, hjb, hg, hsj, Sj, HJ⟩ := hrel
                  by_cases hj : j < b
                  · obtain ⟨jp, rfl⟩ : ∃ jp, j = jp + 1 := ⟨j - 1, by omega⟩
                    have hjz : (jp : Int) + 1 < (b : Int) := by omega
                    have mL := F.methL _ wr Sj.out
                    have mS := F.methS _ wr Sj.out
                    have hl := F.less dj wr (jp + 1) (jp) (by omega) Sj.out (by omega) (by omega)
                    rw [show ((jp + 1 : Nat) : Int) = (jp : Int) + 1 by omega] at hl
                    obtain ⟨c, hc⟩ : ∃ c, c = lt dj[jp + 1]! dj[jp]! := ⟨_, rfl⟩
                    rw [← hc] at hl
                    have HV : Aside (lt dj[jp + 1]! dj[jp]! = c) := hc.symm
                    clear hc
                    cases c with
                    | true =>
                      have HV' : Aside _ := HV
                      clear HV
                      go_wp2_with fail
                      refine hl.mono ?_
                      rintro e w' ⟨rfl, q, os, rfl⟩
                      have S2 : Aside _ := Sj.out.grow q os
                      clear mL mS hl
                      generalize grow (wr.drewN q) os = w2 at S2 ⊢
                      clear q os
                      have mL := F.methL _ w2 S2.out
                      have mS := F.methS _ w2 S2.out
                      have hs := F.swap dj w2 (jp + 1) (jp) (by omega) S2.out (by omega) (by omega)
                      rw [show ((jp + 1 : Nat) : Int) = (jp : Int) + 1 by omega] at hs
                      go_wp2_with fail
                      refine hs.mono ?_
                      rintro e w3 ⟨rfl, S3q, hgr⟩
                      have S3 : Aside _ := S3q
                      clear mL mS hs hgr S3q
                      have mL := F.methL _ w3 S3.out
                      have mS := F.methS _ w3 S3.out
                      go_wp2_with fail
                      go_roundg (b - (jp + 1 + 1))
                      case measure => omega
                      case rel => exact ⟨jp + 1 + 1, swp dj (jp + 1) jp, by go_num, by omega, by omega, Nat.le_refl _, by rw [size_swp]; exact hsj, S3, (shiftUp_go lt b (jp + 1) dj hj HV'.out).symm.trans HJ.out⟩
                    | false =>
                      have HV' : Aside _ := HV
                      clear HV
                      go_wp2_with fail
                      refine hl.mono ?_
                      rintro e w' ⟨rfl, q, os, rfl⟩
                      have S2 : Aside _ := Sj.out.grow q os
                      clear mL mS hl
                      generalize grow (wr.drewN q) os = w2 at S2 ⊢
                      clear q os
                      have mL := F.methL _ w2 S2.out
                      have mS := F.methS _ w2 S2.out
                      have HU : Hid (fixUp lt b (kp + 1) d1 = dj) := by show _ = _; unfold fixUp; rw [if_pos hdu]; exact HJ.out.symm.trans (shiftUp_stop lt b (jp + 1) dj (Or.inr HV'.out))
                      go_wp2_with fail
                      go_roundg (5 - (s + 1))
                      case measure => omega
                      case rel => exact ⟨kp + 1, s + 1, dj, by go_num, by go_num, by omega, by omega, by omega, Nat.le_refl _, hsj, S2, by show _ = _; rw [HP'.out, HD.out, HU.out]⟩
                  · have hjz : ¬ (j : Int) < (b : Int) := by omega
                    have HU : Hid (fixUp lt b (kp + 1) d1 = dj) := by show _ = _; unfold fixUp; rw [if_pos hdu]; exact HJ.out.symm.trans (shiftUp_stop lt b j dj (Or.inl hj))
                    go_wp2_with fail
                    go_roundg (5 - (s + 1))
                    case measure => omega
                    case rel => exact ⟨kp + 1, s + 1, dj, by go_num, by go_num, by omega, by omega, by omega, Nat.le_refl _, hsj, Sj, by show _ = _; rw [HP'.out, HD.out, HU.out]⟩
              · exact absurd h50 (by omega)
    · have hsz5 : ¬ (s : Int) < 5 := by omega
      obtain rfl : s = 5 := by omega
      have HF := HO.out.symm.trans (pi_end lt a b i dk)
      have HF' : Hid _ := HF
      clear HF
      go_wp2_with fail
      go_ret
      rw [HF'.out]
      exact ⟨rfl, Sk.out⟩
end Go.Proofs.Ytglgmkikegbchaa
