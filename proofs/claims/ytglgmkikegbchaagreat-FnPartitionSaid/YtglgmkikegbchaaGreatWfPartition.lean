/- partition: the text over an Interface. -/
import Derived.Test.YtglgmkikegbchaaGreatWf0
import Derived.Test.YtglgmkikegbchaaGreatPb
import Derived.Deep.CutBlock
import Derived.Deep.DeepCutAuto
import Derived.Sort.WalkC4
import Derived.Sort.WalkC
namespace Go.Proofs.YtglgmkikegbchaaGreat
open Go.RowKit Go.Sort

set_option maxHeartbeats 16000000 in
set_option maxRecDepth 1000000 in
theorem partition_f (T : TypeId) (rv : Value) (lt : It → It → Bool) (gl gs : Nat) (rl rs : Value) (w0 : World) (blk off n : Nat) (F : FaceOk T rv lt w0 blk off n gl gs rl rs) (d : Array It) (w : World) (S : St2 w0 blk off d w) (hn : d.size = n) (hsz : n < 4611686018427387904) (a b pv : Nat) (hap : a ≤ pv) (hpb : pv < b) (hb : b ≤ n) :
    Calls Tryz.prog 142 #[.iface T rv, .int .i64 a, .int .i64 b, .int .i64 pv] w fun e w' =>
      e = .returned (.tuple #[.int .i64 ((partition lt d a b pv).1 : Nat), .bool (partition lt d a b pv).2.1]) ∧ St2 w0 blk off (partition lt d a b pv).2.2 w' := by
  obtain ⟨J, rfl⟩ : ∃ J, b = J + 1 := ⟨b - 1, by omega⟩
  obtain ⟨R, hR⟩ : ∃ R, R = partition lt d a (J + 1) pv := ⟨_, rfl⟩
  rw [← hR]
  have HR : Aside _ := hR
  clear hR
  have eL := F.eL
  have eS := F.eS
  have S0 : Aside (St2 w0 blk off d w) := S
  clear S
  go_enter Tryz.func142, Tryz.ntmps142
  have mL := F.methL _ w S0.out
  have mS := F.methS _ w S0.out
  have hs := F.swap d w (a) (pv) (by omega) S0.out (by omega) (by omega)
  go_wp2_with fail
  refine hs.mono ?_
  rintro e w1 ⟨rfl, S1q, hgr⟩
  have S1 : Aside _ := S1q
  clear mL mS hs hgr S1q
  have mL := F.methL _ w1 S1.out
  have mS := F.methS _ w1 S1.out
  obtain ⟨dk, hdk⟩ : ∃ dk, dk = swp d a pv := ⟨_, rfl⟩
  rw [← hdk] at S1
  have hsk : dk.size = n := by rw [hdk, size_swp]; exact hn
  have HDK : Aside (dk = swp d a pv) := hdk
  clear hdk S0
  go_upto_block 0 with fail
  go_cut [10, 11] (fun vi vj wx => ∃ i : Nat, vi = .int .i64 i ∧ vj = .int .i64 (J : Nat) ∧ (a + 1) ≤ i ∧ i ≤ J + 1 ∧ Aside (St2 w0 blk off dk wx) ∧ Hid (i = scanUp (fun x => lt x dk[a]!) dk J (a + 1)))
  case first =>
    go_wp2_with fail
    go_loopg [10] (J + 1 - (a + 1)) (fun g vi wr => ∃ i : Nat, vi = .int .i64 i ∧ (a + 1) ≤ i ∧ i ≤ J + 1 ∧ J + 1 - i ≤ g ∧ Aside (St2 w0 blk off dk wr) ∧ Hid (scanUp (fun x => lt x dk[a]!) dk J i = scanUp (fun x => lt x dk[a]!) dk J (a + 1)))
    case atStart => exact ⟨(a + 1), by go_num, by omega, by omega, Nat.le_refl _, S1, rfl⟩
    case round =>
      clear S1
      obtain ⟨i, rfl, hlv, hvh, hg, Sk, HO⟩ := hrel
      by_cases hlt : i ≤ J
      · have hltz : (i : Int) ≤ (J : Int) := by omega
        have mL := F.methL _ wr Sk.out
        have mS := F.methS _ wr Sk.out
        have hl := F.less dk wr (i) (a) (by omega) Sk.out (by omega) (by omega)
        obtain ⟨c, hc⟩ : ∃ c, c = lt dk[i]! dk[a]! := ⟨_, rfl⟩
        rw [← hc] at hl
        have HV : Aside (lt dk[i]! dk[a]! = c) := hc.symm
        clear hc
        cases c with
        | true =>
          have HV' : Aside _ := HV
          clear HV
          go_wp2_with fail
          refine hl.mono ?_
          rintro e w' ⟨rfl, q, os, rfl⟩
          have S2 : Aside _ := Sk.out.grow q os
          clear mL mS hl
          generalize grow (wr.drewN q) os = w2 at S2 ⊢
          clear q os
          have mL := F.methL _ w2 S2.out
          have mS := F.methS _ w2 S2.out
          go_wp2_with fail
          go_roundg (J + 1 - (i + 1))
          case measure => omega
          case rel => exact ⟨i + 1, by go_num, by omega, by omega, Nat.le_refl _, S2, (scanUp_go _ _ _ _ hlt (by exact HV'.out)).symm.trans HO.out⟩
        | false =>
          have HV' : Aside _ := HV
          clear HV
          go_wp2_with fail
          refine hl.mono ?_
          rintro e w' ⟨rfl, q, os, rfl⟩
          have S2 : Aside _ := Sk.out.grow q os
          clear mL mS hl
          generalize grow (wr.drewN q) os = w2 at S2 ⊢
          clear q os
          have mL := F.methL _ w2 S2.out
          have mS := F.methS _ w2 S2.out
          go_wp2_with fail
          go_meet
          case rel => exact ⟨i, by go_num, by go_num, hlv, hvh, S2, (scanUp_end _ _ _ _ (Or.inr (by exact HV'.out))).symm.trans HO.out⟩
      · have hltz : ¬ (i : Int) ≤ (J : Int) := by omega
        go_wp2_with fail
        go_meet
        case rel => exact ⟨i, by go_num, by go_num, hlv, hvh, Sk, (scanUp_end _ _ _ _ (Or.inl hlt)).symm.trans HO.out⟩
  case rest =>
    clear S1
    obtain ⟨i1, rfl, rfl, hli1, hhi1, Si1, Hi1⟩ := hcut
    go_upto_block 2 with fail
    go_cut [10, 11] (fun vi vj wx => ∃ j : Nat, vi = .int .i64 (i1 : Nat) ∧ vj = .int .i64 j ∧ j ≤ J ∧ i1 ≤ j + 1 ∧ Aside (St2 w0 blk off dk wx) ∧ Hid (j = scanDown (fun x => !lt x dk[a]!) dk i1 J))
    case first =>
      go_wp2_with fail
      go_loopg [11] (J) (fun g vj wr => ∃ j : Nat, vj = .int .i64 j ∧ j ≤ J ∧ i1 ≤ j + 1 ∧ j ≤ g ∧ Aside (St2 w0 blk off dk wr) ∧ Hid (scanDown (fun x => !lt x dk[a]!) dk i1 j = scanDown (fun x => !lt x dk[a]!) dk i1 J))
      case atStart => exact ⟨J, by go_num, by omega, by omega, Nat.le_refl _, Si1, rfl⟩
      case round =>
        clear Si1
        obtain ⟨j, rfl, hlv, hvh, hg, Sk, HO⟩ := hrel
        by_cases hlt : i1 ≤ j
        · obtain ⟨jp, rfl⟩ : ∃ jp, j = jp + 1 := ⟨j - 1, by omega⟩
          have hltz : (i1 : Int) ≤ (jp : Int) + 1 := by omega
          have mL := F.methL _ wr Sk.out
          have mS := F.methS _ wr Sk.out
          have hl := F.less dk wr (jp + 1) (a) (by omega) Sk.out (by omega) (by omega)
          rw [show ((jp + 1 : Nat) : Int) = (jp : Int) + 1 by omega] at hl
          obtain ⟨c, hc⟩ : ∃ c, c = lt dk[jp + 1]! dk[a]! := ⟨_, rfl⟩
          rw [← hc] at hl
          have HV : Aside (lt dk[jp + 1]! dk[a]! = c) := hc.symm
          clear hc
          cases c with
          | true =>
            have HV' : Aside _ := HV
            clear HV
            go_wp2_with fail
            refine hl.mono ?_
            rintro e w' ⟨rfl, q, os, rfl⟩
            have S2 : Aside _ := Sk.out.grow q os
            clear mL mS hl
            generalize grow (wr.drewN q) os = w2 at S2 ⊢
            clear q os
            have mL := F.methL _ w2 S2.out
            have mS := F.methS _ w2 S2.out
            go_wp2_with fail
            go_meet
            case rel => exact ⟨jp + 1, by go_num, by go_num, hlv, hvh, S2, (scanDown_end _ _ _ _ (Or.inr (by show (!_) = _; rw [HV'.out]; rfl))).symm.trans HO.out⟩
          | false =>
            have HV' : Aside _ := HV
            clear HV
            go_wp2_with fail
            refine hl.mono ?_
            rintro e w' ⟨rfl, q, os, rfl⟩
            have S2 : Aside _ := Sk.out.grow q os
            clear mL mS hl
            generalize grow (wr.drewN q) os = w2 at S2 ⊢
            clear q os
            have mL := F.methL _ w2 S2.out
            have mS := F.methS _ w2 S2.out
            go_wp2_with fail
            go_roundg jp
            case measure => omega
            case rel => exact ⟨jp, by go_num, by omega, by omega, Nat.le_refl _, S2, (scanDown_go _ _ _ _ hlt (by omega) (by show (!_) = _; rw [HV'.out]; rfl)).symm.trans HO.out⟩
        · have hltz : ¬ (i1 : Int) ≤ (j : Int) := by omega
          go_wp2_with fail
          go_meet
          case rel => exact ⟨j, by go_num, by go_num, hlv, hvh, Sk, (scanDown_end _ _ _ _ (Or.inl hlt)).symm.trans HO.out⟩
    case rest =>
      clear Si1
      obtain ⟨j1, rfl, rfl, hlj1, hhj1, Sj1, Hj1⟩ := hcut
      by_cases hgt : j1 < i1
      · have hgtz : (j1 : Int) < (i1 : Int) := by omega
        have mL := F.methL _ wc Sj1.out
        have mS := F.methS _ wc Sj1.out
        have hs := F.swap dk wc (j1) (a) (by omega) Sj1.out (by omega) (by omega)
        go_wp2_with fail
        refine hs.mono ?_
        rintro e w7 ⟨rfl, S7q, hgr⟩
        have S7 : Aside _ := S7q
        clear mL mS hs hgr S7q
        have mL := F.methL _ w7 S7.out
        have mS := F.methS _ w7 S7.out
        go_wp2_with fail
        (try simp only [Exit.inBlock, Exit.then]); refine bodyPost_ret (results_tmp2 rfl _ _ _) rfl ?_
        rw [HR.out, part_first_break lt d a (J + 1) pv rfl rfl HDK.out Hi1.out Hj1.out hgt]
        exact ⟨rfl, S7.out⟩
      · have hgtz : ¬ (j1 : Int) < (i1 : Int) := by omega
        have hij := part_scans_lt lt a _ _ dk (by omega) Hi1.out Hj1.out (by omega)
        have mL := F.methL _ wc Sj1.out
        have mS := F.methS _ wc Sj1.out
        have hs := F.swap dk wc (i1) (j1) (by omega) Sj1.out (by omega) (by omega)
        go_wp2_with fail
        refine hs.mono ?_
        rintro e w8 ⟨rfl, S8q, hgr⟩
        have S8 : Aside _ := S8q
        clear mL mS hs hgr S8q
        have mL := F.methL _ w8 S8.out
        have mS := F.methS _ w8 S8.out
        obtain ⟨Q, hQ⟩ : ∃ Q, Q = partLoop lt a (i1 + 1) (j1 - 1) (swp dk i1 j1) := ⟨_, rfl⟩
        have HP : Hid (R = (Q.1, false, swp Q.2 Q.1 a)) := by show _ = _; rw [HR.out, hQ]; exact part_first_go lt d a (J + 1) pv rfl rfl HDK.out Hi1.out Hj1.out (by omega)
        have HQ : Hid (Q = partLoop lt a (i1 + 1) (j1 - 1) (swp dk i1 j1)) := hQ
        have hs8 : (swp dk i1 j1).size = n := by rw [size_swp]; exact hsk
        clear hQ HR HDK Hi1 Hj1 Sj1 hgtz
        generalize swp dk i1 j1 = dl at S8 HQ hs8
        go_wp2_with fail
        go_loopg [10, 11] J (fun g vi vj wr => ∃ (k l : Nat) (dl : Array It), vi = .int .i64 k ∧ vj = .int .i64 l ∧ a < k ∧ k ≤ l + 1 ∧ l ≤ J ∧ l ≤ g ∧ dl.size = n ∧ Aside (St2 w0 blk off dl wr) ∧ Hid (Q = partLoop lt a k l dl))
        case atStart => exact ⟨i1 + 1, j1 - 1, dl, by go_num, by go_num, by omega, by omega, by omega, by omega, hs8, S8, HQ⟩
        case round =>
          clear S8 HQ hs8 dl
          obtain ⟨k, l, dl, rfl, rfl, hak, hkl, hlJ, hgl, hsl, Sl, HL⟩ := hrel
          go_upto_block 6 with fail
          go_cut [10, 11] (fun vi vj wx => ∃ i : Nat, vi = .int .i64 i ∧ vj = .int .i64 (l : Nat) ∧ k ≤ i ∧ i ≤ l + 1 ∧ Aside (St2 w0 blk off dl wx) ∧ Hid (i = scanUp (fun x => lt x dl[a]!) dl l k))
          case first =>
            go_wp2_with fail
            go_loopg [10] (l + 1 - k) (fun g vi wr => ∃ i : Nat, vi = .int .i64 i ∧ k ≤ i ∧ i ≤ l + 1 ∧ l + 1 - i ≤ g ∧ Aside (St2 w0 blk off dl wr) ∧ Hid (scanUp (fun x => lt x dl[a]!) dl l i = scanUp (fun x => lt x dl[a]!) dl l k))
            case atStart => exact ⟨k, rfl, by omega, by omega, Nat.le_refl _, Sl, rfl⟩
            case round =>
              clear Sl
              obtain ⟨i, rfl, hlv, hvh, hg, Sk, HO⟩ := hrel
              by_cases hlt : i ≤ l
              · have hltz : (i : Int) ≤ (l : Int) := by omega
                have mL := F.methL _ wr Sk.out
                have mS := F.methS _ wr Sk.out
                have hl := F.less dl wr (i) (a) (by omega) Sk.out (by omega) (by omega)
                obtain ⟨c, hc⟩ : ∃ c, c = lt dl[i]! dl[a]! := ⟨_, rfl⟩
                rw [← hc] at hl
                have HV : Aside (lt dl[i]! dl[a]! = c) := hc.symm
                clear hc
                cases c with
                | true =>
                  have HV' : Aside _ := HV
                  clear HV
                  go_wp2_with fail
                  refine hl.mono ?_
                  rintro e w' ⟨rfl, q, os, rfl⟩
                  have S2 : Aside _ := Sk.out.grow q os
                  clear mL mS hl
                  generalize grow (wr.drewN q) os = w2 at S2 ⊢
                  clear q os
                  have mL := F.methL _ w2 S2.out
                  have mS := F.methS _ w2 S2.out
                  go_wp2_with fail
                  go_roundg (l + 1 - (i + 1))
                  case measure => omega
                  case rel => exact ⟨i + 1, by go_num, by omega, by omega, Nat.le_refl _, S2, (scanUp_go _ _ _ _ hlt (by exact HV'.out)).symm.trans HO.out⟩
                | false =>
                  have HV' : Aside _ := HV
                  clear HV
                  go_wp2_with fail
                  refine hl.mono ?_
                  rintro e w' ⟨rfl, q, os, rfl⟩
                  have S2 : Aside _ := Sk.out.grow q os
                  clear mL mS hl
                  generalize grow (wr.drewN q) os = w2 at S2 ⊢
                  clear q os
                  have mL := F.methL _ w2 S2.out
                  have mS := F.methS _ w2 S2.out
                  go_wp2_with fail
                  go_meet
                  case rel => exact ⟨i, by go_num, by go_num, hlv, hvh, S2, (scanUp_end _ _ _ _ (Or.inr (by exact HV'.out))).symm.trans HO.out⟩
              · have hltz : ¬ (i : Int) ≤ (l : Int) := by omega
                go_wp2_with fail
                go_meet
                case rel => exact ⟨i, by go_num, by go_num, hlv, hvh, Sk, (scanUp_end _ _ _ _ (Or.inl hlt)).symm.trans HO.out⟩
          case rest =>
            clear Sl
            obtain ⟨i3, rfl, rfl, hli3, hhi3, Si3, Hi3⟩ := hcut
            go_upto_block 8 with fail
            go_cut [10, 11] (fun vi vj wx => ∃ j : Nat, vi = .int .i64 (i3 : Nat) ∧ vj = .int .i64 j ∧ j ≤ l ∧ i3 ≤ j + 1 ∧ Aside (St2 w0 blk off dl wx) ∧ Hid (j = scanDown (fun x => !lt x dl[a]!) dl i3 l))
            case first =>
              go_wp2_with fail
              go_loopg [11] (l) (fun g vj wr => ∃ j : Nat, vj = .int .i64 j ∧ j ≤ l ∧ i3 ≤ j + 1 ∧ j ≤ g ∧ Aside (St2 w0 blk off dl wr) ∧ Hid (scanDown (fun x => !lt x dl[a]!) dl i3 j = scanDown (fun x => !lt x dl[a]!) dl i3 l))
              case atStart => exact ⟨l, by go_num, by omega, by omega, Nat.le_refl _, Si3, rfl⟩
              case round =>
                clear Si3
                obtain ⟨j, rfl, hlv, hvh, hg, Sk, HO⟩ := hrel
                by_cases hlt : i3 ≤ j
                · obtain ⟨jp, rfl⟩ : ∃ jp, j = jp + 1 := ⟨j - 1, by omega⟩
                  have hltz : (i3 : Int) ≤ (jp : Int) + 1 := by omega
                  have mL := F.methL _ wr Sk.out
                  have mS := F.methS _ wr Sk.out
                  have hl := F.less dl wr (jp + 1) (a) (by omega) Sk.out (by omega) (by omega)
                  rw [show ((jp + 1 : Nat) : Int) = (jp : Int) + 1 by omega] at hl
                  obtain ⟨c, hc⟩ : ∃ c, c = lt dl[jp + 1]! dl[a]! := ⟨_, rfl⟩
                  rw [← hc] at hl
                  have HV : Aside (lt dl[jp + 1]! dl[a]! = c) := hc.symm
                  clear hc
                  cases c with
                  | true =>
                    have HV' : Aside _ := HV
                    clear HV
                    go_wp2_with fail
                    refine hl.mono ?_
                    rintro e w' ⟨rfl, q, os, rfl⟩
                    have S2 : Aside _ := Sk.out.grow q os
                    clear mL mS hl
                    generalize grow (wr.drewN q) os = w2 at S2 ⊢
                    clear q os
                    have mL := F.methL _ w2 S2.out
                    have mS := F.methS _ w2 S2.out
                    go_wp2_with fail
                    go_meet
                    case rel => exact ⟨jp + 1, by go_num, by go_num, hlv, hvh, S2, (scanDown_end _ _ _ _ (Or.inr (by show (!_) = _; rw [HV'.out]; rfl))).symm.trans HO.out⟩
                  | false =>
                    have HV' : Aside _ := HV
                    clear HV
                    go_wp2_with fail
                    refine hl.mono ?_
                    rintro e w' ⟨rfl, q, os, rfl⟩
                    have S2 : Aside _ := Sk.out.grow q os
                    clear mL mS hl
                    generalize grow (wr.drewN q) os = w2 at S2 ⊢
                    clear q os
                    have mL := F.methL _ w2 S2.out
                    have mS := F.methS _ w2 S2.out
                    go_wp2_with fail
                    go_roundg jp
                    case measure => omega
                    case rel => exact ⟨jp, by go_num, by omega, by omega, Nat.le_refl _, S2, (scanDown_go _ _ _ _ hlt (by omega) (by show (!_) = _; rw [HV'.out]; rfl)).symm.trans HO.out⟩
                · have hltz : ¬ (i3 : Int) ≤ (j : Int) := by omega
                  go_wp2_with fail
                  go_meet
                  case rel => exact ⟨j, by go_num, by go_num, hlv, hvh, Sk, (scanDown_end _ _ _ _ (Or.inl hlt)).symm.trans HO.out⟩
            case rest =>
              clear Si3
              obtain ⟨j3, rfl, rfl, hlj3, hhj3, Sj3, Hj3⟩ := hcut
              by_cases hgt : j3 < i3
              · have hgtz : (j3 : Int) < (i3 : Int) := by omega
                have mL := F.methL _ wc Sj3.out
                have mS := F.methS _ wc Sj3.out
                have hs := F.swap dl wc (j3) (a) (by omega) Sj3.out (by omega) (by omega)
                go_wp2_with fail
                refine hs.mono ?_
                rintro e w7 ⟨rfl, S7q, hgr⟩
                have S7 : Aside _ := S7q
                clear mL mS hs hgr S7q
                have mL := F.methL _ w7 S7.out
                have mS := F.methS _ w7 S7.out
                go_wp2_with fail
                (try simp only [Exit.inBlock, Exit.then]); refine bodyPost_ret (results_tmp2 rfl _ _ _) rfl ?_
                have hL := HL.out.trans (part_break lt a k l dl Hi3.out Hj3.out hgt)
                rw [HP.out, hL]
                exact ⟨rfl, S7.out⟩
              · have hgtz : ¬ (j3 : Int) < (i3 : Int) := by omega
                have hij := part_scans_lt lt a _ _ dl (by omega) Hi3.out Hj3.out (by omega)
                have mL := F.methL _ wc Sj3.out
                have mS := F.methS _ wc Sj3.out
                have hs := F.swap dl wc (i3) (j3) (by omega) Sj3.out (by omega) (by omega)
                go_wp2_with fail
                refine hs.mono ?_
                rintro e w8 ⟨rfl, S8q, hgr⟩
                have S8 : Aside _ := S8q
                clear mL mS hs hgr S8q
                have mL := F.methL _ w8 S8.out
                have mS := F.methS _ w8 S8.out
                go_wp2_with fail
                go_roundg (j3 - 1)
                case measure => omega
                case rel => exact ⟨i3 + 1, j3 - 1, swp dl i3 j3, by go_num, by go_num, by omega, by omega, by omega, Nat.le_refl _, by rw [size_swp]; exact hsl, S8, HL.out.trans (part_go lt a k l dl Hi3.out Hj3.out (by omega))⟩
end Go.Proofs.YtglgmkikegbchaaGreat
