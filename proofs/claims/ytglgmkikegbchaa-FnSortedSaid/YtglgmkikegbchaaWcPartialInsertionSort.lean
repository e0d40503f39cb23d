/- partialInsertionSort: the text by a function that compares, over elements of two cells. -/
import Derived.Test.YtglgmkikegbchaaWc0
import Derived.Test.YtglgmkikegbchaaPb
import Derived.Deep.CutBlock
import Derived.Deep.DeepCutAuto
import Derived.Sort.WalkC4
import Derived.Sort.WalkC
import Derived.Sort.WalkA6
namespace Go.Proofs.Ytglgmkikegbchaa
open Go.RowKit Go.Sort

set_option maxHeartbeats 16000000 in
set_option maxRecDepth 1000000 in
theorem partialInsertionSort_c (O : Value) (cf : It → It → Int) (hC : CmpC O cf) (w0 : World) (blk off cap n : Nat) (d : Array It) (w : World) (S : St2 w0 blk off d w) (hn : d.size = n) (hsz : n < 4611686018427387904) (a b : Nat) (hab : a < b) (hb : b ≤ n) :
    Calls Try.prog 99 #[.slice (some ⟨blk, off, none⟩) n cap, .int .i64 a, .int .i64 b, .func (.func 36) #[O] #[]] w fun e w' =>
      e = .returned (.bool (partialInsertionSort (ltC cf) d a b).2) ∧ St2 w0 blk off (partialInsertionSort (ltC cf) d a b).1 w' := by
  obtain ⟨R, hR⟩ : ∃ R, R = partialInsertionSort (ltC cf) d a b := ⟨_, rfl⟩
  rw [← hR]
  have HR : Hid (partialIns (ltC cf) a b (5 - 0) (a + 1) d = R) := hR.symm
  clear hR
  have mixed : Try.prog.follows .mixedOrders = true := by kernel_rfl
  have HC : Aside (CmpC O cf) := hC
  have S0 : Aside (St2 w0 blk off d w) := S
  clear S
  go_enter Try.func99, Try.ntmps99
  go_wp2_with fail
  go_loopg [9, 10] 5 (fun g vi vj wr => ∃ (i s : Nat) (dk : Array It), vi = .int .i64 i ∧ vj = .int .i64 s ∧ a < i ∧ i ≤ b ∧ s ≤ 5 ∧ 5 - s ≤ g ∧ dk.size = n ∧ Aside (St2 w0 blk off dk wr) ∧ Hid (partialIns (ltC cf) a b (5 - s) i dk = R))
  case atStart => exact ⟨a + 1, 0, d, by go_num, by go_num, by omega, by omega, by omega, by omega, hn, S0, HR⟩
  case round =>
    clear S0
    obtain ⟨i, s, dk, rfl, rfl, hai, hib, hs5, hg, hsk, Sk, HO⟩ := hrel
    by_cases hs : s < 5
    · have hsz5 : (s : Int) < 5 := by omega
      go_upto_block 2 with fail
      go_cut [9] (fun vi wx => ∃ k : Nat, vi = .int .i64 k ∧ i ≤ k ∧ k ≤ b ∧ Aside (St2 w0 blk off dk wx) ∧ Hid (scanSorted (ltC cf) dk b i = k))
      case first =>
        go_wp2_with fail
        go_loopg [9] (b - i) (fun g vk wr => ∃ k : Nat, vk = .int .i64 k ∧ i ≤ k ∧ k ≤ b ∧ b - k ≤ g ∧ Aside (St2 w0 blk off dk wr) ∧ Hid (scanSorted (ltC cf) dk b k = scanSorted (ltC cf) dk b i))
        case atStart => exact ⟨i, rfl, Nat.le_refl _, hib, Nat.le_refl _, Sk, rfl⟩
        case round =>
          clear Sk
          obtain ⟨k, rfl, hik, hkb, hgk, Sk, HS⟩ := hrel
          by_cases hkb' : k < b
          · obtain ⟨kp, rfl⟩ : ∃ kp, k = kp + 1 := ⟨k - 1, by omega⟩
            have hkz : (kp : Int) + 1 < (b : Int) := by omega
            have bi1 : (kp : Int) + 1 < (n : Int) := by omega
            have ri1 : IntKind.i64.wrap ((kp : Int) + 1) = (kp : Int) + 1 := by rw [IntKind.wrap_i64]; omega
            have pi1 : (0 : Int) ≤ (kp : Int) + 1 := by omega
            have ei1 : ((kp : Int) + 1).toNat = kp + 1 := by omega
            have bj1 : (kp : Int) < (n : Int) := by omega
            have rj1 : IntKind.i64.wrap ((kp : Int)) = (kp : Int) := by rw [IntKind.wrap_i64]; omega
            obtain ⟨⟨x1, x2⟩, hx⟩ : ∃ x : It, x = dk[kp + 1]! := ⟨_, rfl⟩
            obtain ⟨⟨y1, y2⟩, hy⟩ : ∃ y : It, y = dk[kp]! := ⟨_, rfl⟩
            have c11 := fun n' os => (Sk.out.cells (i := kp + 1) (by omega) hx n' os).1
            have c12 := fun n' os => (Sk.out.cells (i := kp + 1) (by omega) hx n' os).2
            have c21 := fun n' os => (Sk.out.cells (i := kp) (by omega) hy n' os).1
            have c22 := fun n' os => (Sk.out.cells (i := kp) (by omega) hy n' os).2
            have hcc := CmpC.out HC (x1, x2) (y1, y2)
            dsimp only [vIt] at c11 c12 c21 c22 hcc
            obtain ⟨c, hc⟩ : ∃ c, c = cf (x1, x2) (y1, y2) := ⟨_, rfl⟩
            rw [← hc] at hcc
            have HV : Aside (ltC cf dk[kp + 1]! dk[kp]! = decide (c < 0)) := by show ltC cf _ _ = _; rw [← hx, ← hy, hc]; rfl
            clear hx hy hc
            by_cases hcl : c < 0
            · have hcd : decide (c < 0) = true := decide_eq_true hcl
              replace HV := HV.out.trans hcd
              have HV' : Aside _ := HV
              clear HV
              go_wp2_with fail
              go_quiet_grown (first | (go_at_call 36; refine Calls.grown_of (hcc _)))
              have S2 : Aside _ := Sk.out.grow nq osq
              clear c11 c12 c21 c22 hcc
              generalize grow (wr.drewN nq) osq = w2 at S2 ⊢
              clear nq osq
              clear bi1 ri1 pi1 ei1 bj1 rj1
              go_wp2_with fail
              go_meet
              case rel => exact ⟨kp + 1, by go_num, hik, hkb, S2, HS.out.symm.trans (scanSorted_stop (ltC cf) dk b (kp + 1) (Or.inr HV'.out))⟩
            · have hcd : decide (c < 0) = false := decide_eq_false hcl
              replace HV := HV.out.trans hcd
              have HV' : Aside _ := HV
              clear HV
              go_wp2_with fail
              go_quiet_grown (first | (go_at_call 36; refine Calls.grown_of (hcc _)))
              have S2 : Aside _ := Sk.out.grow nq osq
              clear c11 c12 c21 c22 hcc
              generalize grow (wr.drewN nq) osq = w2 at S2 ⊢
              clear nq osq
              clear bi1 ri1 pi1 ei1 bj1 rj1
              go_wp2_with fail
              go_roundg (b - (kp + 1 + 1))
              case measure => omega
              case rel => exact ⟨kp + 1 + 1, by go_num, by omega, by omega, Nat.le_refl _, S2, (scanSorted_go (ltC cf) dk b (kp + 1) hkb' HV'.out).symm.trans HS.out⟩
          · have hkz : decide ((k : Int) < (b : Int)) = false := by refine decide_eq_false ?_; omega
            go_wp2_with fail
            go_quiet (fail)
            have S2 : Aside _ := Sk.out.drewN nq
            generalize wr.drewN nq = w2 at S2 ⊢
            clear nq
            go_wp2_with fail
            go_meet
            case rel => exact ⟨k, by go_num, hik, hkb, S2, HS.out.symm.trans (scanSorted_stop (ltC cf) dk b k (Or.inl hkb'))⟩
      case rest =>
        clear Sk
        obtain ⟨k, rfl, hik, hkb, Sk, HK⟩ := hcut
        by_cases hke : k = b
        · subst hke
          have HF := HO.out.symm.trans (pi_true (ltC cf) a k s i dk hs HK.out)
          have HF' : Hid _ := HF
          clear HF
          go_wp2_with fail
          (try simp only [Exit.inBlock, Exit.then]); refine bodyPost_ret (results_tmp rfl _ _ _) rfl ?_
          rw [HF'.out]
          exact ⟨rfl, Sk.out⟩
        · have hkez : ¬ (k : Int) = (b : Int) := by omega
          by_cases h50 : b - a < 50
          · have h50z : (b : Int) - (a : Int) < 50 := by omega
            have HF := HO.out.symm.trans (pi_short (ltC cf) a b s i dk hs (by rw [HK.out]; exact hke) h50)
            have HF' : Hid _ := HF
            clear HF
            go_wp2_with fail
            (try simp only [Exit.inBlock, Exit.then]); refine bodyPost_ret (results_tmp rfl _ _ _) rfl ?_
            rw [HF'.out]
            exact ⟨rfl, Sk.out⟩
          · have h50z : ¬ (b : Int) - (a : Int) < 50 := by omega
            obtain ⟨kp, rfl⟩ : ∃ kp, k = kp + 1 := ⟨k - 1, by omega⟩
            have HP := HO.out.symm.trans (pi_go (ltC cf) a b s i (kp + 1) dk hs HK.out hke h50)
            rw [Nat.add_sub_cancel] at HP
            have bi2 : (kp : Int) + 1 < (n : Int) := by omega
            have ri2 : IntKind.i64.wrap ((kp : Int) + 1) = (kp : Int) + 1 := by rw [IntKind.wrap_i64]; omega
            have pi2 : (0 : Int) ≤ (kp : Int) + 1 := by omega
            have ei2 : ((kp : Int) + 1).toNat = kp + 1 := by omega
            have bj2 : (kp : Int) < (n : Int) := by omega
            have rj2 : IntKind.i64.wrap ((kp : Int)) = (kp : Int) := by rw [IntKind.wrap_i64]; omega
            obtain ⟨⟨x1, x2⟩, hx⟩ : ∃ x : It, x = dk[kp + 1]! := ⟨_, rfl⟩
            obtain ⟨⟨y1, y2⟩, hy⟩ : ∃ y : It, y = dk[kp]! := ⟨_, rfl⟩
            obtain ⟨c11, c12, f11, f12⟩ := Sk.out.holds (kp + 1) (by omega)
            obtain ⟨c21, c22, f21, f22⟩ := Sk.out.holds (kp) (by omega)
            rw [← hx] at c11 c12
            rw [← hy] at c21 c22
            dsimp only at c11 c12 c21 c22
            obtain ⟨u3, g3⟩ := Sk.out.third (kp + 1) (kp) (by omega) (by omega) (.int .i64 y1) (.int .i64 y2)
            obtain ⟨u4, g4⟩ := Sk.out.fourth (kp + 1) (kp) (by omega) (by omega) (.int .i64 y1) (.int .i64 y2) (.int .i64 x1)
            have S1 : Aside _ := (Sk.out.swap (by omega) (by omega) hx hy).drew
            dsimp only at S1
            clear hx hy
            go_wp2_with fail
            go_region
            clear c11 c12 c21 c22 f11 f12 f21 f22 g3 g4
            generalize ((((wc.setCell ⟨blk, off + (kp + 1) * 2, none⟩ (.int .i64 y1)).setCell ⟨blk, off + (kp + 1) * 2 + 1, none⟩ (.int .i64 y2)).setCell ⟨blk, off + (kp) * 2, none⟩ (.int .i64 x1)).setCell ⟨blk, off + (kp) * 2 + 1, none⟩ (.int .i64 x2)).drew = w1 at S1 ⊢
            clear bi2 ri2 pi2 ei2 bj2 rj2
            obtain ⟨d1, hd1⟩ : ∃ d1, d1 = swp dk (kp + 1) kp := ⟨_, rfl⟩
            have hsd1 : d1.size = n := by rw [hd1, size_swp]; exact hsk
            rw [← hd1] at S1 HP
            have HP' : Hid _ := HP
            clear HP hd1 Sk
            by_cases hdd : 2 ≤ kp + 1 - a
            · have hddz : 2 ≤ (kp : Int) + 1 - (a : Int) := by omega
              go_upto_block 4 with fail
              go_cut [11] (fun vj wx => ∃ (j : Nat) (dd : Array It), vj = .int .i64 j ∧ dd.size = n ∧ Aside (St2 w0 blk off dd wx) ∧ Hid (fixDown (ltC cf) a (kp + 1) d1 = dd))
              case first =>
                go_wp2_with fail
                go_loopg [11] (kp) (fun g vj wr => ∃ (j : Nat) (dj : Array It), vj = .int .i64 j ∧ j ≤ kp ∧ j ≤ g ∧ dj.size = n ∧ Aside (St2 w0 blk off dj wr) ∧ Hid (shiftDown (ltC cf) j dj = shiftDown (ltC cf) kp d1))
                case atStart => exact ⟨kp, d1, by go_num, Nat.le_refl _, Nat.le_refl _, hsd1, S1, rfl⟩
                case round =>
                  clear S1
                  obtain ⟨j, dj, rfl, hjk, hg, hsj, Sj, HJ⟩ := hrel
                  by_cases hj : 1 ≤ j
                  · obtain ⟨jp, rfl⟩ : ∃ jp, j = jp + 1 := ⟨j - 1, by omega⟩
                    have hjz : 1 ≤ (jp : Int) + 1 := by omega
                    have bi3 : (jp : Int) + 1 < (n : Int) := by omega
                    have ri3 : IntKind.i64.wrap ((jp : Int) + 1) = (jp : Int) + 1 := by rw [IntKind.wrap_i64]; omega
                    have pi3 : (0 : Int) ≤ (jp : Int) + 1 := by omega
                    have ei3 : ((jp : Int) + 1).toNat = jp + 1 := by omega
                    have bj3 : (jp : Int) < (n : Int) := by omega
                    have rj3 : IntKind.i64.wrap ((jp : Int)) = (jp : Int) := by rw [IntKind.wrap_i64]; omega
                    obtain ⟨⟨x1, x2⟩, hx⟩ : ∃ x : It, x = dj[jp + 1]! := ⟨_, rfl⟩
                    obtain ⟨⟨y1, y2⟩, hy⟩ : ∃ y : It, y = dj[jp]! := ⟨_, rfl⟩
                    have c11 := fun n' os => (Sj.out.cells (i := jp + 1) (by omega) hx n' os).1
                    have c12 := fun n' os => (Sj.out.cells (i := jp + 1) (by omega) hx n' os).2
                    have c21 := fun n' os => (Sj.out.cells (i := jp) (by omega) hy n' os).1
                    have c22 := fun n' os => (Sj.out.cells (i := jp) (by omega) hy n' os).2
                    have hcc := CmpC.out HC (x1, x2) (y1, y2)
                    dsimp only [vIt] at c11 c12 c21 c22 hcc
                    obtain ⟨c, hc⟩ : ∃ c, c = cf (x1, x2) (y1, y2) := ⟨_, rfl⟩
                    rw [← hc] at hcc
                    have HV : Aside (ltC cf dj[jp + 1]! dj[jp]! = decide (c < 0)) := by show ltC cf _ _ = _; rw [← hx, ← hy, hc]; rfl
                    clear hx hy hc
                    by_cases hcl : c < 0
                    · have hcd : decide (c < 0) = true := decide_eq_true hcl
                      replace HV := HV.out.trans hcd
                      have HV' : Aside _ := HV
                      clear HV
                      go_wp2_with fail
                      go_quiet_grown (first | (go_at_call 36; refine Calls.grown_of (hcc _)))
                      have S2 : Aside _ := Sj.out.grow nq osq
                      clear c11 c12 c21 c22 hcc
                      generalize grow (wr.drewN nq) osq = w2 at S2 ⊢
                      clear nq osq
                      clear bi3 ri3 pi3 ei3 bj3 rj3
                      have bi4 : (jp : Int) + 1 < (n : Int) := by omega
                      have ri4 : IntKind.i64.wrap ((jp : Int) + 1) = (jp : Int) + 1 := by rw [IntKind.wrap_i64]; omega
                      have pi4 : (0 : Int) ≤ (jp : Int) + 1 := by omega
                      have ei4 : ((jp : Int) + 1).toNat = jp + 1 := by omega
                      have bj4 : (jp : Int) < (n : Int) := by omega
                      have rj4 : IntKind.i64.wrap ((jp : Int)) = (jp : Int) := by rw [IntKind.wrap_i64]; omega
                      obtain ⟨⟨x1, x2⟩, hx⟩ : ∃ x : It, x = dj[jp + 1]! := ⟨_, rfl⟩
                      obtain ⟨⟨y1, y2⟩, hy⟩ : ∃ y : It, y = dj[jp]! := ⟨_, rfl⟩
                      obtain ⟨c11, c12, f11, f12⟩ := S2.out.holds (jp + 1) (by omega)
                      obtain ⟨c21, c22, f21, f22⟩ := S2.out.holds (jp) (by omega)
                      rw [← hx] at c11 c12
                      rw [← hy] at c21 c22
                      dsimp only at c11 c12 c21 c22
                      obtain ⟨u3, g3⟩ := S2.out.third (jp + 1) (jp) (by omega) (by omega) (.int .i64 y1) (.int .i64 y2)
                      obtain ⟨u4, g4⟩ := S2.out.fourth (jp + 1) (jp) (by omega) (by omega) (.int .i64 y1) (.int .i64 y2) (.int .i64 x1)
                      have S3 : Aside _ := (S2.out.swap (by omega) (by omega) hx hy).drew
                      dsimp only at S3
                      clear hx hy
                      go_wp2_with fail
                      go_region
                      clear c11 c12 c21 c22 f11 f12 f21 f22 g3 g4
                      generalize ((((w2.setCell ⟨blk, off + (jp + 1) * 2, none⟩ (.int .i64 y1)).setCell ⟨blk, off + (jp + 1) * 2 + 1, none⟩ (.int .i64 y2)).setCell ⟨blk, off + (jp) * 2, none⟩ (.int .i64 x1)).setCell ⟨blk, off + (jp) * 2 + 1, none⟩ (.int .i64 x2)).drew = w3 at S3 ⊢
                      clear bi4 ri4 pi4 ei4 bj4 rj4
                      go_wp2_with fail
                      go_roundg jp
                      case measure => omega
                      case rel => exact ⟨jp, swp dj (jp + 1) jp, by go_num, by omega, Nat.le_refl _, by rw [size_swp]; exact hsj, S3, (shiftDown_go (ltC cf) (jp + 1) dj (by omega) HV'.out).symm.trans HJ.out⟩
                    · have hcd : decide (c < 0) = false := decide_eq_false hcl
                      replace HV := HV.out.trans hcd
                      have HV' : Aside _ := HV
                      clear HV
                      go_wp2_with fail
                      go_quiet_grown (first | (go_at_call 36; refine Calls.grown_of (hcc _)))
                      have S2 : Aside _ := Sj.out.grow nq osq
                      clear c11 c12 c21 c22 hcc
                      generalize grow (wr.drewN nq) osq = w2 at S2 ⊢
                      clear nq osq
                      clear bi3 ri3 pi3 ei3 bj3 rj3
                      go_wp2_with fail
                      go_meet
                      case rel => exact ⟨jp + 1, dj, by go_num, hsj, S2, by show _ = _; unfold fixDown; rw [if_pos hdd]; exact HJ.out.symm.trans (shiftDown_stop (ltC cf) (jp + 1) dj (Or.inr HV'.out))⟩
                  · have hjz : ¬ 1 ≤ (j : Int) := by omega
                    go_wp2_with fail
                    go_meet
                    case rel => exact ⟨j, dj, by go_num, hsj, Sj, by show _ = _; unfold fixDown; rw [if_pos hdd]; exact HJ.out.symm.trans (shiftDown_stop (ltC cf) j dj (Or.inl (by omega)))⟩
              case rest =>
                clear S1
                obtain ⟨j, dd, rfl, hsdd, Sdd, HD⟩ := hcut
                by_cases hdu : 2 ≤ b - (kp + 1)
                · have hduz : 2 ≤ (b : Int) - ((kp : Int) + 1) := by omega
                  go_wp2_with fail
                  go_loopg [12] (b - (kp + 2)) (fun g vj wr => ∃ (j : Nat) (dj : Array It), vj = .int .i64 j ∧ kp + 2 ≤ j ∧ j ≤ b ∧ b - j ≤ g ∧ dj.size = n ∧ Aside (St2 w0 blk off dj wr) ∧ Hid (shiftUp (ltC cf) b j dj = shiftUp (ltC cf) b (kp + 2) dd))
                  case atStart => exact ⟨(kp + 2), dd, by go_num, Nat.le_refl _, by omega, Nat.le_refl _, hsdd, Sdd, rfl⟩
                  case round =>
                    clear Sdd
                    obtain ⟨j, dj, rfl, hkj, hjb, hg, hsj, Sj, HJ⟩ := hrel
                    by_cases hj : j < b
                    · obtain ⟨jp, rfl⟩ : ∃ jp, j = jp + 1 := ⟨j - 1, by omega⟩
                      have hjz : (jp : Int) + 1 < (b : Int) := by omega
                      have bi5 : (jp : Int) + 1 < (n : Int) := by omega
                      have ri5 : IntKind.i64.wrap ((jp : Int) + 1) = (jp : Int) + 1 := by rw [IntKind.wrap_i64]; omega
                      have pi5 : (0 : Int) ≤ (jp : Int) + 1 := by omega
                      have ei5 : ((jp : Int) + 1).toNat = jp + 1 := by omega
                      have bj5 : (jp : Int) < (n : Int) := by omega
                      have rj5 : IntKind.i64.wrap ((jp : Int)) = (jp : Int) := by rw [IntKind.wrap_i64]; omega
                      obtain ⟨⟨x1, x2⟩, hx⟩ : ∃ x : It, x = dj[jp + 1]! := ⟨_, rfl⟩
                      obtain ⟨⟨y1, y2⟩, hy⟩ : ∃ y : It, y = dj[jp]! := ⟨_, rfl⟩
                      have c11 := fun n' os => (Sj.out.cells (i := jp + 1) (by omega) hx n' os).1
                      have c12 := fun n' os => (Sj.out.cells (i := jp + 1) (by omega) hx n' os).2
                      have c21 := fun n' os => (Sj.out.cells (i := jp) (by omega) hy n' os).1
                      have c22 := fun n' os => (Sj.out.cells (i := jp) (by omega) hy n' os).2
                      have hcc := CmpC.out HC (x1, x2) (y1, y2)
                      dsimp only [vIt] at c11 c12 c21 c22 hcc
                      obtain ⟨c, hc⟩ : ∃ c, c = cf (x1, x2) (y1, y2) := ⟨_, rfl⟩
                      rw [← hc] at hcc
                      have HV : Aside (ltC cf dj[jp + 1]! dj[jp]! = decide (c < 0)) := by show ltC cf _ _ = _; rw [← hx, ← hy, hc]; rfl
                      clear hx hy hc
                      by_cases hcl : c < 0
                      · have hcd : decide (c < 0) = true := decide_eq_true hcl
                        replace HV := HV.out.trans hcd
                        have HV' : Aside _ := HV
                        clear HV
                        go_wp2_with fail
                        go_quiet_grown (first | (go_at_call 36; refine Calls.grown_of (hcc _)))
                        have S2 : Aside _ := Sj.out.grow nq osq
                        clear c11 c12 c21 c22 hcc
                        generalize grow (wr.drewN nq) osq = w2 at S2 ⊢
                        clear nq osq
                        clear bi5 ri5 pi5 ei5 bj5 rj5
                        have bi6 : (jp : Int) + 1 < (n : Int) := by omega
                        have ri6 : IntKind.i64.wrap ((jp : Int) + 1) = (jp : Int) + 1 := by rw [IntKind.wrap_i64]; omega
                        have pi6 : (0 : Int) ≤ (jp : Int) + 1 := by omega
                        have ei6 : ((jp : Int) + 1).toNat = jp + 1 := by omega
                        have bj6 : (jp : Int) < (n : Int) := by omega
                        have rj6 : IntKind.i64.wrap ((jp : Int)) = (jp : Int) := by rw [IntKind.wrap_i64]; omega
                        obtain ⟨⟨x1, x2⟩, hx⟩ : ∃ x : It, x = dj[jp + 1]! := ⟨_, rfl⟩
                        obtain ⟨⟨y1, y2⟩, hy⟩ : ∃ y : It, y = dj[jp]! := ⟨_, rfl⟩
                        obtain ⟨c11, c12, f11, f12⟩ := S2.out.holds (jp + 1) (by omega)
                        obtain ⟨c21, c22, f21, f22⟩ := S2.out.holds (jp) (by omega)
                        rw [← hx] at c11 c12
                        rw [← hy] at c21 c22
                        dsimp only at c11 c12 c21 c22
                        obtain ⟨u3, g3⟩ := S2.out.third (jp + 1) (jp) (by omega) (by omega) (.int .i64 y1) (.int .i64 y2)
                        obtain ⟨u4, g4⟩ := S2.out.fourth (jp + 1) (jp) (by omega) (by omega) (.int .i64 y1) (.int .i64 y2) (.int .i64 x1)
                        have S3 : Aside _ := (S2.out.swap (by omega) (by omega) hx hy).drew
                        dsimp only at S3
                        clear hx hy
                        go_wp2_with fail
                        go_region
                        clear c11 c12 c21 c22 f11 f12 f21 f22 g3 g4
                        generalize ((((w2.setCell ⟨blk, off + (jp + 1) * 2, none⟩ (.int .i64 y1)).setCell ⟨blk, off + (jp + 1) * 2 + 1, none⟩ (.int .i64 y2)).setCell ⟨blk, off + (jp) * 2, none⟩ (.int .i64 x1)).setCell ⟨blk, off + (jp) * 2 + 1, none⟩ (.int .i64 x2)).drew = w3 at S3 ⊢
                        clear bi6 ri6 pi6 ei6 bj6 rj6
                        go_wp2_with fail
                        go_roundg (b - (jp + 1 + 1))
                        case measure => omega
                        case rel => exact ⟨jp + 1 + 1, swp dj (jp + 1) jp, by go_num, by omega, by omega, Nat.le_refl _, by rw [size_swp]; exact hsj, S3, (shiftUp_go (ltC cf) b (jp + 1) dj hj HV'.out).symm.trans HJ.out⟩
                      · have hcd : decide (c < 0) = false := decide_eq_false hcl
                        replace HV := HV.out.trans hcd
                        have HV' : Aside _ := HV
                        clear HV
                        go_wp2_with fail
                        go_quiet_grown (first | (go_at_call 36; refine Calls.grown_of (hcc _)))
                        have S2 : Aside _ := Sj.out.grow nq osq
                        clear c11 c12 c21 c22 hcc
                        generalize grow (wr.drewN nq) osq = w2 at S2 ⊢
                        clear nq osq
                        clear bi5 ri5 pi5 ei5 bj5 rj5
                        have HU : Hid (fixUp (ltC cf) b (kp + 1) dd = dj) := by show _ = _; unfold fixUp; rw [if_pos hdu]; exact HJ.out.symm.trans (shiftUp_stop (ltC cf) b (jp + 1) dj (Or.inr HV'.out))
                        go_wp2_with fail
                        go_roundg (5 - (s + 1))
                        case measure => omega
                        case rel => exact ⟨kp + 1, s + 1, dj, by go_num, by go_num, by omega, by omega, by omega, Nat.le_refl _, hsj, S2, by show _ = _; rw [HP'.out, HD.out, HU.out]⟩
                    · have hjz : ¬ (j : Int) < (b : Int) := by omega
                      have HU : Hid (fixUp (ltC cf) b (kp + 1) dd = dj) := by show _ = _; unfold fixUp; rw [if_pos hdu]; exact HJ.out.symm.trans (shiftUp_stop (ltC cf) b j dj (Or.inl hj))
                      go_wp2_with fail
                      go_roundg (5 - (s + 1))
                      case measure => omega
                      case rel => exact ⟨kp + 1, s + 1, dj, by go_num, by go_num, by omega, by omega, by omega, Nat.le_refl _, hsj, Sj, by show _ = _; rw [HP'.out, HD.out, HU.out]⟩
                · have hduz : ¬ 2 ≤ (b : Int) - ((kp : Int) + 1) := by omega
                  have HU : Hid (fixUp (ltC cf) b (kp + 1) dd = dd) := by show _ = _; unfold fixUp; rw [if_neg hdu]
                  go_wp2_with fail
                  go_roundg (5 - (s + 1))
                  case measure => omega
                  case rel => exact ⟨kp + 1, s + 1, dd, by go_num, by go_num, by omega, by omega, by omega, Nat.le_refl _, hsdd, Sdd, by show _ = _; rw [HP'.out, HD.out, HU.out]⟩
            · have hddz : ¬ 2 ≤ (kp : Int) + 1 - (a : Int) := by omega
              have HD : Hid (fixDown (ltC cf) a (kp + 1) d1 = d1) := by show _ = _; unfold fixDown; rw [if_neg hdd]
              by_cases hdu : 2 ≤ b - (kp + 1)
              · have hduz : 2 ≤ (b : Int) - ((kp : Int) + 1) := by omega
                go_wp2_with fail
                go_loopg [12] (b - (kp + 2)) (fun g vj wr => ∃ (j : Nat) (dj : Array It), vj = .int .i64 j ∧ kp + 2 ≤ j ∧ j ≤ b ∧ b - j ≤ g ∧ dj.size = n ∧ Aside (St2 w0 blk off dj wr) ∧ Hid (shiftUp (ltC cf) b j dj = shiftUp (ltC cf) b (kp + 2) d1))
                case atStart => exact ⟨(kp + 2), d1, by go_num, Nat.le_refl _, by omega, Nat.le_refl _, hsd1, S1, rfl⟩
                case round =>
                  clear S1
                  obtain ⟨j, dj, rfl, hkj, hjb, hg, hsj, Sj, HJ⟩ := hrel
                  by_cases hj : j < b
                  · obtain ⟨jp, rfl⟩ : ∃ jp, j = jp + 1 := ⟨j - 1, by omega⟩
                    have hjz : (jp : Int) + 1 < (b : Int) := by omega
                    have bi7 : (jp : Int) + 1 < (n : Int) := by omega
                    have ri7 : IntKind.i64.wrap ((jp : Int) + 1) = (jp : Int) + 1 := by rw [IntKind.wrap_i64]; omega
                    have pi7 : (0 : Int) ≤ (jp : Int) + 1 := by omega
                    have ei7 : ((jp : Int) + 1).toNat = jp + 1 := by omega
                    have bj7 : (jp : Int) < (n : Int) := by omega
                    have rj7 : IntKind.i64.wrap ((jp : Int)) = (jp : Int) := by rw [IntKind.wrap_i64]; omega
                    obtain ⟨⟨x1, x2⟩, hx⟩ : ∃ x : It, x = dj[jp + 1]! := ⟨_, rfl⟩
                    obtain ⟨⟨y1, y2⟩, hy⟩ : ∃ y : It, y = dj[jp]! := ⟨_, rfl⟩
                    have c11 := fun n' os => (Sj.out.cells (i := jp + 1) (by omega) hx n' os).1
                    have c12 := fun n' os => (Sj.out.cells (i := jp + 1) (by omega) hx n' os).2
                    have c21 := fun n' os => (Sj.out.cells (i := jp) (by omega) hy n' os).1
                    have c22 := fun n' os => (Sj.out.cells (i := jp) (by omega) hy n' os).2
                    have hcc := CmpC.out HC (x1, x2) (y1, y2)
                    dsimp only [vIt] at c11 c12 c21 c22 hcc
                    obtain ⟨c, hc⟩ : ∃ c, c = cf (x1, x2) (y1, y2) := ⟨_, rfl⟩
                    rw [← hc] at hcc
                    have HV : Aside (ltC cf dj[jp + 1]! dj[jp]! = decide (c < 0)) := by show ltC cf _ _ = _; rw [← hx, ← hy, hc]; rfl
                    clear hx hy hc
                    by_cases hcl : c < 0
                    · have hcd : decide (c < 0) = true := decide_eq_true hcl
                      replace HV := HV.out.trans hcd
                      have HV' : Aside _ := HV
                      clear HV
                      go_wp2_with fail
                      go_quiet_grown (first | (go_at_call 36; refine Calls.grown_of (hcc _)))
                      have S2 : Aside _ := Sj.out.grow nq osq
                      clear c11 c12 c21 c22 hcc
                      generalize grow (wr.drewN nq) osq = w2 at S2 ⊢
                      clear nq osq
                      clear bi7 ri7 pi7 ei7 bj7 rj7
                      have bi8 : (jp : Int) + 1 < (n : Int) := by omega
                      have ri8 : IntKind.i64.wrap ((jp : Int) + 1) = (jp : Int) + 1 := by rw [IntKind.wrap_i64]; omega
                      have pi8 : (0 : Int) ≤ (jp : Int) + 1 := by omega
                      have ei8 : ((jp : Int) + 1).toNat = jp + 1 := by omega
                      have bj8 : (jp : Int) < (n : Int) := by omega
                      have rj8 : IntKind.i64.wrap ((jp : Int)) = (jp : Int) := by rw [IntKind.wrap_i64]; omega
                      obtain ⟨⟨x1, x2⟩, hx⟩ : ∃ x : It, x = dj[jp + 1]! := ⟨_, rfl⟩
                      obtain ⟨⟨y1, y2⟩, hy⟩ : ∃ y : It, y = dj[jp]! := ⟨_, rfl⟩
                      obtain ⟨c11, c12, f11, f12⟩ := S2.out.holds (jp + 1) (by omega)
                      obtain ⟨c21, c22, f21, f22⟩ := S2.out.holds (jp) (by omega)
                      rw [← hx] at c11 c12
                      rw [← hy] at c21 c22
                      dsimp only at c11 c12 c21 c22
                      obtain ⟨u3, g3⟩ := S2.out.third (jp + 1) (jp) (by omega) (by omega) (.int .i64 y1) (.int .i64 y2)
                      obtain ⟨u4, g4⟩ := S2.out.fourth (jp + 1) (jp) (by omega) (by omega) (.int .i64 y1) (.int .i64 y2) (.int .i64 x1)
                      have S3 : Aside _ := (S2.out.swap (by omega) (by omega) hx hy).drew
                      dsimp only at S3
                      clear hx hy
                      go_wp2_with fail
                      go_region
                      clear c11 c12 c21 c22 f11 f12 f21 f22 g3 g4
                      generalize ((((w2.setCell ⟨blk, off + (jp + 1) * 2, none⟩ (.int .i64 y1)).setCell ⟨blk, off + (jp + 1) * 2 + 1, none⟩ (.int .i64 y2)).setCell ⟨blk, off + (jp) * 2, none⟩ (.int .i64 x1)).setCell ⟨blk, off + (jp) * 2 + 1, none⟩ (.int .i64 x2)).drew = w3 at S3 ⊢
                      clear bi8 ri8 pi8 ei8 bj8 rj8
                      go_wp2_with fail
                      go_roundg (b - (jp + 1 + 1))
                      case measure => omega
                      case rel => exact ⟨jp + 1 + 1, swp dj (jp + 1) jp, by go_num, by omega, by omega, Nat.le_refl _, by rw [size_swp]; exact hsj, S3, (shiftUp_go (ltC cf) b (jp + 1) dj hj HV'.out).symm.trans HJ.out⟩
                    · have hcd : decide (c < 0) = false := decide_eq_false hcl
                      replace HV := HV.out.trans hcd
                      have HV' : Aside _ := HV
                      clear HV
                      go_wp2_with fail
                      go_quiet_grown (first | (go_at_call 36; refine Calls.grown_of (hcc _)))
                      have S2 : Aside _ := Sj.out.grow nq osq
                      clear c11 c12 c21 c22 hcc
                      generalize grow (wr.drewN nq) osq = w2 at S2 ⊢
                      clear nq osq
                      clear bi7 ri7 pi7 ei7 bj7 rj7
                      have HU : Hid (fixUp (ltC cf) b (kp + 1) d1 = dj) := by show _ = _; unfold fixUp; rw [if_pos hdu]; exact HJ.out.symm.trans (shiftUp_stop (ltC cf) b (jp + 1) dj (Or.inr HV'.out))
                      go_wp2_with fail
                      go_roundg (5 - (s + 1))
                      case measure => omega
                      case rel => exact ⟨kp + 1, s + 1, dj, by go_num, by go_num, by omega, by omega, by omega, Nat.le_refl _, hsj, S2, by show _ = _; rw [HP'.out, HD.out, HU.out]⟩
                  · have hjz : ¬ (j : Int) < (b : Int) := by omega
                    have HU : Hid (fixUp (ltC cf) b (kp + 1) d1 = dj) := by show _ = _; unfold fixUp; rw [if_pos hdu]; exact HJ.out.symm.trans (shiftUp_stop (ltC cf) b j dj (Or.inl hj))
                    go_wp2_with fail
                    go_roundg (5 - (s + 1))
                    case measure => omega
                    case rel => exact ⟨kp + 1, s + 1, dj, by go_num, by go_num, by omega, by omega, by omega, Nat.le_refl _, hsj, Sj, by show _ = _; rw [HP'.out, HD.out, HU.out]⟩
              · have hduz : ¬ 2 ≤ (b : Int) - ((kp : Int) + 1) := by omega
                have HU : Hid (fixUp (ltC cf) b (kp + 1) d1 = d1) := by show _ = _; unfold fixUp; rw [if_neg hdu]
                go_wp2_with fail
                go_roundg (5 - (s + 1))
                case measure => omega
                case rel => exact ⟨kp + 1, s + 1, d1, by go_num, by go_num, by omega, by omega, by omega, Nat.le_refl _, hsd1, S1, by show _ = _; rw [HP'.out, HD.out, HU.out]⟩
    · have hsz5 : ¬ (s : Int) < 5 := by omega
      obtain rfl : s = 5 := by omega
      have HF := HO.out.symm.trans (pi_end (ltC cf) a b i dk)
      have HF' : Hid _ := HF
      clear HF
      go_wp2_with fail
      go_ret
      rw [HF'.out]
      exact ⟨rfl, Sk.out⟩
end Go.Proofs.Ytglgmkikegbchaa
