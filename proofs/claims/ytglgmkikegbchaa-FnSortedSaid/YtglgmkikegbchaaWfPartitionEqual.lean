/- partitionEqual: the text over an Interface. -/
import Derived.Test.YtglgmkikegbchaaWf0
import Derived.Test.YtglgmkikegbchaaPb
import Derived.Deep.CutBlock
import Derived.Deep.DeepCutAuto
import Derived.Sort.WalkC4
import Derived.Sort.WalkC
namespace Go.Proofs.Ytglgmkikegbchaa
open Go.RowKit Go.Sort

set_option maxHeartbeats 16000000 in
set_option maxRecDepth 1000000 in
theorem partitionEqual_f (T : TypeId) (rv : Value) (lt : It → It → Bool) (gl gs : Nat) (rl rs : Value) (w0 : World) (blk off n : Nat) (F : FaceOk T rv lt w0 blk off n gl gs rl rs) (d : Array It) (w : World) (S : St2 w0 blk off d w) (hn : d.size = n) (hsz : n < 4611686018427387904) (a b pv : Nat) (hap : a ≤ pv) (hpb : pv < b) (hb : b ≤ n) :
    Calls Try.prog 111 #[.iface T rv, .int .i64 a, .int .i64 b, .int .i64 pv] w fun e w' =>
      e = .returned (.int .i64 ((partitionEqual lt d a b pv).1 : Nat)) ∧ St2 w0 blk off (partitionEqual lt d a b pv).2 w' := by
  obtain ⟨J, rfl⟩ : ∃ J, b = J + 1 := ⟨b - 1, by omega⟩
  obtain ⟨Q, hQ⟩ : ∃ Q, Q = partEqLoop lt a (a + 1) J (swp d a pv) := ⟨_, rfl⟩
  rw [show partitionEqual lt d a (J + 1) pv = Q from hQ.symm]
  have HQ : Hid (Q = partEqLoop lt a (a + 1) J (swp d a pv)) := hQ
  clear hQ
  have eL := F.eL
  have eS := F.eS
  have S0 : Aside (St2 w0 blk off d w) := S
  clear S
  go_enter Try.func111, Try.ntmps111
  have mL := F.methL _ w S0.out
  have mS := F.methS _ w S0.out
  have hs := F.swap d w (a) (pv) (by omega) S0.out (by omega) (by omega)
  go_wp2_with fail
  refine hs.mono ?_
  rintro e w1 ⟨rfl, S1q, hgr⟩
  have S1 : Aside _ := S1q
  clear mL mS hs hgr S1q
  have mL := F.methL _ w1 S1.out
  have mS := F.methS _ w1 S1.out
  have hs1 : (swp d a pv).size = n := by rw [size_swp]; exact hn
  generalize swp d a pv = dl at S1 HQ hs1
  clear S0
  go_wp2_with fail
  go_loopg [9, 10] J (fun g vi vj wr => ∃ (k l : Nat) (dl : Array It), vi = .int .i64 k ∧ vj = .int .i64 l ∧ a < k ∧ k ≤ l + 1 ∧ l ≤ J ∧ l ≤ g ∧ dl.size = n ∧ Aside (St2 w0 blk off dl wr) ∧ Hid (Q = partEqLoop lt a k l dl))
  case atStart => exact ⟨a + 1, J, dl, by go_num, by go_num, by omega, by omega, by omega, by omega, hs1, S1, HQ⟩
  case round =>
    clear S1 HQ hs1 dl
    obtain ⟨k, l, dl, rfl, rfl, hak, hkl, hlJ, hgl, hsl, Sl, HL⟩ := hrel
    go_upto_block 2 with fail
    go_cut [9, 10] (fun vi vj wx => ∃ i : Nat, vi = .int .i64 i ∧ vj = .int .i64 (l : Nat) ∧ k ≤ i ∧ i ≤ l + 1 ∧ Aside (St2 w0 blk off dl wx) ∧ Hid (i = scanUp (fun x => !lt dl[a]! x) dl l k))
    case first =>
      go_wp2_with fail
      go_loopg [9] (l + 1 - k) (fun g vi wr => ∃ i : Nat, vi = .int .i64 i ∧ k ≤ i ∧ i ≤ l + 1 ∧ l + 1 - i ≤ g ∧ Aside (St2 w0 blk off dl wr) ∧ Hid (scanUp (fun x => !lt dl[a]! x) dl l i = scanUp (fun x => !lt dl[a]! x) dl l k))
      case atStart => exact ⟨k, rfl, by omega, by omega, Nat.le_refl _, Sl, rfl⟩
      case round =>
        clear Sl
        obtain ⟨i, rfl, hlv, hvh, hg, Sk, HO⟩ := hrel
        by_cases hlt : i ≤ l
        · have hltz : (i : Int) ≤ (l : Int) := by omega
          have mL := F.methL _ wr Sk.out
          have mS := F.methS _ wr Sk.out
          have hl := F.less dl wr (a) (i) (by omega) Sk.out (by omega) (by omega)
          obtain ⟨c, hc⟩ : ∃ c, c = lt dl[a]! dl[i]! := ⟨_, rfl⟩
          rw [← hc] at hl
          have HV : Aside (lt dl[a]! dl[i]! = c) := hc.symm
          clear hc
          cases c with
          | true =>
            have HV' : Aside _ := HV
            clear HV
            go_wp2_with fail
            refine hl.mono ?_
            rintro e w' ⟨rfl, q, os, rfl⟩
            have S2 : Aside _ := Sk.out.grow q os
            clear mL mS hl
            generalize grow (wr.drewN q) os = w2 at S2 ⊢
            clear q os
            have mL := F.methL _ w2 S2.out
            have mS := F.methS _ w2 S2.out
            go_wp2_with fail
            go_meet
            case rel => exact ⟨i, by go_num, by go_num, hlv, hvh, S2, (scanUp_end _ _ _ _ (Or.inr (by show (!_) = _; rw [HV'.out]; rfl))).symm.trans HO.out⟩
          | false =>
            have HV' : Aside _ := HV
            clear HV
            go_wp2_with fail
            refine hl.mono ?_
            rintro e w' ⟨rfl, q, os, rfl⟩
            have S2 : Aside _ := Sk.out.grow q os
            clear mL mS hl
            generalize grow (wr.drewN q) os = w2 at S2 ⊢
            clear q os
            have mL := F.methL _ w2 S2.out
            have mS := F.methS _ w2 S2.out
            go_wp2_with fail
            go_roundg (l + 1 - (i + 1))
            case measure => omega
            case rel => exact ⟨i + 1, by go_num, by omega, by omega, Nat.le_refl _, S2, (scanUp_go _ _ _ _ hlt (by show (!_) = _; rw [HV'.out]; rfl)).symm.trans HO.out⟩
        · have hltz : ¬ (i : Int) ≤ (l : Int) := by omega
          go_wp2_with fail
          go_meet
          case rel => exact ⟨i, by go_num, by go_num, hlv, hvh, Sk, (scanUp_end _ _ _ _ (Or.inl hlt)).symm.trans HO.out⟩
    case rest =>
      clear Sl
      obtain ⟨i3, rfl, rfl, hli3, hhi3, Si3, Hi3⟩ := hcut
      go_upto_block 4 with fail
      go_cut [9, 10] (fun vi vj wx => ∃ j : Nat, vi = .int .i64 (i3 : Nat) ∧ vj = .int .i64 j ∧ j ≤ l ∧ i3 ≤ j + 1 ∧ Aside (St2 w0 blk off dl wx) ∧ Hid (j = scanDown (fun x => lt dl[a]! x) dl i3 l))
      case first =>
        go_wp2_with fail
        go_loopg [10] (l) (fun g vj wr => ∃ j : Nat, vj = .int .i64 j ∧ j ≤ l ∧ i3 ≤ j + 1 ∧ j ≤ g ∧ Aside (St2 w0 blk off dl wr) ∧ Hid (scanDown (fun x => lt dl[a]! x) dl i3 j = scanDown (fun x => lt dl[a]! x) dl i3 l))
        case atStart => exact ⟨l, by go_num, by omega, by omega, Nat.le_refl _, Si3, rfl⟩
        case round =>
          clear Si3
          obtain ⟨j, rfl, hlv, hvh, hg, Sk, HO⟩ := hrel
          by_cases hlt : i3 ≤ j
          · obtain ⟨jp, rfl⟩ : ∃ jp, j = jp + 1 := ⟨j - 1, by omega⟩
            have hltz : (i3 : Int) ≤ (jp : Int) + 1 := by omega
            have mL := F.methL _ wr Sk.out
            have mS := F.methS _ wr Sk.out
            have hl := F.less dl wr (a) (jp + 1) (by omega) Sk.out (by omega) (by omega)
            rw [show ((jp + 1 : Nat) : Int) = (jp : Int) + 1 by omega] at hl
            obtain ⟨c, hc⟩ : ∃ c, c = lt dl[a]! dl[jp + 1]! := ⟨_, rfl⟩
            rw [← hc] at hl
            have HV : Aside (lt dl[a]! dl[jp + 1]! = c) := hc.symm
            clear hc
            cases c with
            | true =>
              have HV' : Aside _ := HV
              clear HV
              go_wp2_with fail
              refine hl.mono ?_
              rintro e w' ⟨rfl, q, os, rfl⟩
              have S2 : Aside _ := Sk.out.grow q os
              clear mL mS hl
              generalize grow (wr.drewN q) os = w2 at S2 ⊢
              clear q os
              have mL := F.methL _ w2 S2.out
              have mS := F.methS _ w2 S2.out
              go_wp2_with fail
              go_roundg jp
              case measure => omega
              case rel => exact ⟨jp, by go_num, by omega, by omega, Nat.le_refl _, S2, (scanDown_go _ _ _ _ hlt (by omega) (by exact HV'.out)).symm.trans HO.out⟩
            | false =>
              have HV' : Aside _ := HV
              clear HV
              go_wp2_with fail
              refine hl.mono ?_
              rintro e w' ⟨rfl, q, os, rfl⟩
              have S2 : Aside _ := Sk.out.grow q os
              clear mL mS hl
              generalize grow (wr.drewN q) os = w2 at S2 ⊢
              clear q os
              have mL := F.methL _ w2 S2.out
              have mS := F.methS _ w2 S2.out
              go_wp2_with fail
              go_meet
              case rel => exact ⟨jp + 1, by go_num, by go_num, hlv, hvh, S2, (scanDown_end _ _ _ _ (Or.inr (by exact HV'.out))).symm.trans HO.out⟩
          · have hltz : ¬ (i3 : Int) ≤ (j : Int) := by omega
            go_wp2_with fail
            go_meet
            case rel => exact ⟨j, by go_num, by go_num, hlv, hvh, Sk, (scanDown_end _ _ _ _ (Or.inl hlt)).symm.trans HO.out⟩
      case rest =>
        clear Si3
        obtain ⟨j3, rfl, rfl, hlj3, hhj3, Sj3, Hj3⟩ := hcut
        by_cases hgt : j3 < i3
        · have hgtz : (j3 : Int) < (i3 : Int) := by omega
          have hL := HL.out.trans (partEq_break lt a k l dl Hi3.out Hj3.out hgt)
          have HF : Hid _ := hL
          clear hL
          go_wp2_with fail
          go_ret
          rw [HF.out]
          exact ⟨rfl, Sj3.out⟩
        · have hgtz : ¬ (j3 : Int) < (i3 : Int) := by omega
          have hij := scans_lt lt a _ _ dl (by omega) Hi3.out Hj3.out (by omega)
          have mL := F.methL _ wc Sj3.out
          have mS := F.methS _ wc Sj3.out
          have hs := F.swap dl wc (i3) (j3) (by omega) Sj3.out (by omega) (by omega)
          go_wp2_with fail
          refine hs.mono ?_
          rintro e w8 ⟨rfl, S8q, hgr⟩
          have S8 : Aside _ := S8q
          clear mL mS hs hgr S8q
          have mL := F.methL _ w8 S8.out
          have mS := F.methS _ w8 S8.out
          go_wp2_with fail
          go_roundg (j3 - 1)
          case measure => omega
          case rel => exact ⟨i3 + 1, j3 - 1, swp dl i3 j3, by go_num, by go_num, by omega, by omega, by omega, Nat.le_refl _, by rw [size_swp]; exact hsl, S8, HL.out.trans (partEq_go lt a k l dl Hi3.out Hj3.out (by omega))⟩
end Go.Proofs.Ytglgmkikegbchaa
