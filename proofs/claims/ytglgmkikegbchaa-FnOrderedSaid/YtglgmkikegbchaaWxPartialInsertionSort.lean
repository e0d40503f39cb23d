/- partialInsertionSort: the text over the keys alone, floats. -/
import Derived.Test.YtglgmkikegbchaaWx0
import Derived.Test.YtglgmkikegbchaaPb
import Derived.Deep.CutBlock
import Derived.Deep.DeepCutAuto
import Derived.Sort.WalkC4
import Derived.Sort.WalkC
import Derived.Sort.WalkA6
namespace Go.Proofs.Ytglgmkikegbchaa
open Go.RowKit Go.Sort
attribute [local go_sem] run_store_float

set_option maxHeartbeats 16000000 in
set_option maxRecDepth 1000000 in
theorem partialInsertionSort_x (w0 : World) (blk off cap n : Nat) (d : Array Nat) (w : World) (S : St1 eFl w0 blk off d w) (hn : d.size = n) (hsz : n < 4611686018427387904) (a b : Nat) (hab : a < b) (hb : b ≤ n) :
    Calls Try.prog 123 #[.slice (some ⟨blk, off, none⟩) n cap, .int .i64 a, .int .i64 b] w fun e w' =>
      e = .returned (.bool (partialInsertionSort ltFl d a b).2) ∧ St1 eFl w0 blk off (partialInsertionSort ltFl d a b).1 w' := by
  obtain ⟨R, hR⟩ : ∃ R, R = partialInsertionSort ltFl d a b := ⟨_, rfl⟩
  rw [← hR]
  have HR : Hid (partialIns ltFl a b (5 - 0) (a + 1) d = R) := hR.symm
  clear hR
  have S0 : Aside (St1 eFl w0 blk off d w) := S
  clear S
  go_enter Try.func123, Try.ntmps123
  go_wp2_with fail
  go_loopg [7, 8] 5 (fun g vi vj wr => ∃ (i s : Nat) (dk : Array Nat), vi = .int .i64 i ∧ vj = .int .i64 s ∧ a < i ∧ i ≤ b ∧ s ≤ 5 ∧ 5 - s ≤ g ∧ dk.size = n ∧ Aside (St1 eFl w0 blk off dk wr) ∧ Hid (partialIns ltFl a b (5 - s) i dk = R))
  case atStart => exact ⟨a + 1, 0, d, by go_num, by go_num, by omega, by omega, by omega, by omega, hn, S0, HR⟩
  case round =>
    clear S0
    obtain ⟨i, s, dk, rfl, rfl, hai, hib, hs5, hg, hsk, Sk, HO⟩ := hrel
    by_cases hs : s < 5
    · have hsz5 : (s : Int) < 5 := by omega
      go_upto_block 2 with fail
      go_cut [7] (fun vi wx => ∃ k : Nat, vi = .int .i64 k ∧ i ≤ k ∧ k ≤ b ∧ Aside (St1 eFl w0 blk off dk wx) ∧ Hid (scanSorted ltFl dk b i = k))
      case first =>
        go_wp2_with fail
        go_loopg [7] (b - i) (fun g vk wr => ∃ k : Nat, vk = .int .i64 k ∧ i ≤ k ∧ k ≤ b ∧ b - k ≤ g ∧ Aside (St1 eFl w0 blk off dk wr) ∧ Hid (scanSorted ltFl dk b k = scanSorted ltFl dk b i))
        case atStart => exact ⟨i, rfl, Nat.le_refl _, hib, Nat.le_refl _, Sk, rfl⟩
        case round =>
          clear Sk
          obtain ⟨k, rfl, hik, hkb, hgk, Sk, HS⟩ := hrel
          by_cases hkb' : k < b
          · obtain ⟨kp, rfl⟩ : ∃ kp, k = kp + 1 := ⟨k - 1, by omega⟩
            have hkz : (kp : Int) + 1 < (b : Int) := by omega
            have bi1 : (kp : Int) + 1 < (n : Int) := by omega
            have pi1 : (0 : Int) ≤ (kp : Int) + 1 := by omega
            have ei1 : ((kp : Int) + 1).toNat = kp + 1 := by omega
            have bj1 : (kp : Int) < (n : Int) := by omega
            obtain ⟨x, hx⟩ : ∃ x, x = dk[kp + 1]! := ⟨_, rfl⟩
            obtain ⟨y, hy⟩ : ∃ y, y = dk[kp]! := ⟨_, rfl⟩
            have c1 : wr.cell? ⟨blk, off + (kp + 1), none⟩ = some (.float .f64 x) := by rw [hx]; exact Sk.out.cell (by omega)
            have c2 : wr.cell? ⟨blk, off + (kp), none⟩ = some (.float .f64 y) := by rw [hy]; exact Sk.out.cell (by omega)
            have hless : ∀ c W, ltFl x y = c → Calls Try.prog 124 #[.float .f64 x, .float .f64 y] W fun e w' => e = .returned (.bool c) ∧ w' = W := fun c W hc => by rw [← hc]; exact less_x x y W
            obtain ⟨c, hc⟩ : ∃ c, c = ltFl x y := ⟨_, rfl⟩
            have HV : Aside (ltFl dk[kp + 1]! dk[kp]! = c) := by show ltFl _ _ = _; rw [← hx, ← hy, hc]
            replace hless := fun W => hless c W hc.symm
            clear hx hy hc
            cases c with
            | true =>
              have HV' : Aside _ := HV
              clear HV
              go_wp2_with fail
              go_quiet (first | (go_at_call 124; refine Calls.quiet_of_same (hless _)))
              have S2 : Aside _ := Sk.out.drewN nq
              clear c1 c2 hless
              generalize wr.drewN nq = w2 at S2 ⊢
              clear nq
              clear bi1 pi1 ei1 bj1
              go_wp2_with fail
              go_meet
              case rel => exact ⟨kp + 1, by go_num, hik, hkb, S2, HS.out.symm.trans (scanSorted_stop ltFl dk b (kp + 1) (Or.inr HV'.out))⟩
            | false =>
              have HV' : Aside _ := HV
              clear HV
              go_wp2_with fail
              go_quiet (first | (go_at_call 124; refine Calls.quiet_of_same (hless _)))
              have S2 : Aside _ := Sk.out.drewN nq
              clear c1 c2 hless
              generalize wr.drewN nq = w2 at S2 ⊢
              clear nq
              clear bi1 pi1 ei1 bj1
              go_wp2_with fail
              go_roundg (b - (kp + 1 + 1))
              case measure => omega
              case rel => exact ⟨kp + 1 + 1, by go_num, by omega, by omega, Nat.le_refl _, S2, (scanSorted_go ltFl dk b (kp + 1) hkb' HV'.out).symm.trans HS.out⟩
          · have hkz : decide ((k : Int) < (b : Int)) = false := by refine decide_eq_false ?_; omega
            go_wp2_with fail
            go_quiet (fail)
            have S2 : Aside _ := Sk.out.drewN nq
            generalize wr.drewN nq = w2 at S2 ⊢
            clear nq
            go_wp2_with fail
            go_meet
            case rel => exact ⟨k, by go_num, hik, hkb, S2, HS.out.symm.trans (scanSorted_stop ltFl dk b k (Or.inl hkb'))⟩
      case rest =>
        clear Sk
        obtain ⟨k, rfl, hik, hkb, Sk, HK⟩ := hcut
        by_cases hke : k = b
        · subst hke
          have HF := HO.out.symm.trans (pi_true ltFl a k s i dk hs HK.out)
          have HF' : Hid _ := HF
          clear HF
          go_wp2_with fail
          (try simp only [Exit.inBlock, Exit.then]); refine bodyPost_ret (results_tmp rfl _ _ _) rfl ?_
          rw [HF'.out]
          exact ⟨rfl, Sk.out⟩
        · have hkez : ¬ (k : Int) = (b : Int) := by omega
          by_cases h50 : b - a < 50
          · have h50z : (b : Int) - (a : Int) < 50 := by omega
            have HF := HO.out.symm.trans (pi_short ltFl a b s i dk hs (by rw [HK.out]; exact hke) h50)
            have HF' : Hid _ := HF
            clear HF
            go_wp2_with fail
            (try simp only [Exit.inBlock, Exit.then]); refine bodyPost_ret (results_tmp rfl _ _ _) rfl ?_
            rw [HF'.out]
            exact ⟨rfl, Sk.out⟩
          · have h50z : ¬ (b : Int) - (a : Int) < 50 := by omega
            obtain ⟨kp, rfl⟩ : ∃ kp, k = kp + 1 := ⟨k - 1, by omega⟩
            have HP := HO.out.symm.trans (pi_go ltFl a b s i (kp + 1) dk hs HK.out hke h50)
            rw [Nat.add_sub_cancel] at HP
            have bi2 : (kp : Int) + 1 < (n : Int) := by omega
            have pi2 : (0 : Int) ≤ (kp : Int) + 1 := by omega
            have ei2 : ((kp : Int) + 1).toNat = kp + 1 := by omega
            have bj2 : (kp : Int) < (n : Int) := by omega
            obtain ⟨x, hx⟩ : ∃ x, x = dk[kp + 1]! := ⟨_, rfl⟩
            obtain ⟨y, hy⟩ : ∃ y, y = dk[kp]! := ⟨_, rfl⟩
            have c1 : wc.cell? ⟨blk, off + (kp + 1), none⟩ = some (.float .f64 x) := by rw [hx]; exact Sk.out.cell (by omega)
            have c2 : wc.cell? ⟨blk, off + (kp), none⟩ = some (.float .f64 y) := by rw [hy]; exact Sk.out.cell (by omega)
            have f1 : wc.frozen? ⟨blk, off + (kp + 1), none⟩ = false := Sk.out.frozen (by omega)
            have f2 : wc.frozen? ⟨blk, off + (kp), none⟩ = false := Sk.out.frozen (by omega)
            obtain ⟨u2, g2⟩ := Sk.out.second (kp + 1) (kp) (by omega) (by omega) (.float .f64 y)
            have S1 : Aside _ := (Sk.out.swap (by omega) (by omega) hx hy).drew
            clear hx hy
            go_wp2_with fail
            go_region
            clear c1 c2 f1 f2 g2
            generalize ((wc.setCell ⟨blk, off + (kp + 1), none⟩ (.float .f64 y)).setCell ⟨blk, off + (kp), none⟩ (.float .f64 x)).drew = w1 at S1 ⊢
            clear bi2 pi2 ei2 bj2
            obtain ⟨d1, hd1⟩ : ∃ d1, d1 = swp dk (kp + 1) kp := ⟨_, rfl⟩
            have hsd1 : d1.size = n := by rw [hd1, size_swp]; exact hsk
            rw [← hd1] at S1 HP
            have HP' : Hid _ := HP
            clear HP hd1 Sk
            by_cases hdd : 2 ≤ kp + 1 - a
            · have hddz : 2 ≤ (kp : Int) + 1 - (a : Int) := by omega
              go_upto_block 4 with fail
              go_cut [9] (fun vj wx => ∃ (j : Nat) (dd : Array Nat), vj = .int .i64 j ∧ dd.size = n ∧ Aside (St1 eFl w0 blk off dd wx) ∧ Hid (fixDown ltFl a (kp + 1) d1 = dd))
              case first =>
                go_wp2_with fail
                go_loopg [9] (kp) (fun g vj wr => ∃ (j : Nat) (dj : Array Nat), vj = .int .i64 j ∧ j ≤ kp ∧ j ≤ g ∧ dj.size = n ∧ Aside (St1 eFl w0 blk off dj wr) ∧ Hid (shiftDown ltFl j dj = shiftDown ltFl kp d1))
                case atStart => exact ⟨kp, d1, by go_num, Nat.le_refl _, Nat.le_refl _, hsd1, S1, rfl⟩
                case round =>
                  clear S1
                  obtain ⟨j, dj, rfl, hjk, hg, hsj, Sj, HJ⟩ := hrel
                  by_cases hj : 1 ≤ j
                  · obtain ⟨jp, rfl⟩ : ∃ jp, j = jp + 1 := ⟨j - 1, by omega⟩
                    have hjz : 1 ≤ (jp : Int) + 1 := by omega
                    have bi3 : (jp : Int) + 1 < (n : Int) := by omega
                    have pi3 : (0 : Int) ≤ (jp : Int) + 1 := by omega
                    have ei3 : ((jp : Int) + 1).toNat = jp + 1 := by omega
                    have bj3 : (jp : Int) < (n : Int) := by omega
                    obtain ⟨x, hx⟩ : ∃ x, x = dj[jp + 1]! := ⟨_, rfl⟩
                    obtain ⟨y, hy⟩ : ∃ y, y = dj[jp]! := ⟨_, rfl⟩
                    have c1 : wr.cell? ⟨blk, off + (jp + 1), none⟩ = some (.float .f64 x) := by rw [hx]; exact Sj.out.cell (by omega)
                    have c2 : wr.cell? ⟨blk, off + (jp), none⟩ = some (.float .f64 y) := by rw [hy]; exact Sj.out.cell (by omega)
                    have hless : ∀ c W, ltFl x y = c → Calls Try.prog 124 #[.float .f64 x, .float .f64 y] W fun e w' => e = .returned (.bool c) ∧ w' = W := fun c W hc => by rw [← hc]; exact less_x x y W
                    obtain ⟨c, hc⟩ : ∃ c, c = ltFl x y := ⟨_, rfl⟩
                    have HV : Aside (ltFl dj[jp + 1]! dj[jp]! = c) := by show ltFl _ _ = _; rw [← hx, ← hy, hc]
                    replace hless := fun W => hless c W hc.symm
                    clear hx hy hc
                    cases c with
                    | true =>
                      have HV' : Aside _ := HV
                      clear HV
                      go_wp2_with fail
                      go_quiet (first | (go_at_call 124; refine Calls.quiet_of_same (hless _)))
                      have S2 : Aside _ := Sj.out.drewN nq
                      clear c1 c2 hless
                      generalize wr.drewN nq = w2 at S2 ⊢
                      clear nq
                      clear bi3 pi3 ei3 bj3
                      have bi4 : (jp : Int) + 1 < (n : Int) := by omega
                      have pi4 : (0 : Int) ≤ (jp : Int) + 1 := by omega
                      have ei4 : ((jp : Int) + 1).toNat = jp + 1 := by omega
                      have bj4 : (jp : Int) < (n : Int) := by omega
                      obtain ⟨x, hx⟩ : ∃ x, x = dj[jp + 1]! := ⟨_, rfl⟩
                      obtain ⟨y, hy⟩ : ∃ y, y = dj[jp]! := ⟨_, rfl⟩
                      have c1 : w2.cell? ⟨blk, off + (jp + 1), none⟩ = some (.float .f64 x) := by rw [hx]; exact S2.out.cell (by omega)
                      have c2 : w2.cell? ⟨blk, off + (jp), none⟩ = some (.float .f64 y) := by rw [hy]; exact S2.out.cell (by omega)
                      have f1 : w2.frozen? ⟨blk, off + (jp + 1), none⟩ = false := S2.out.frozen (by omega)
                      have f2 : w2.frozen? ⟨blk, off + (jp), none⟩ = false := S2.out.frozen (by omega)
                      obtain ⟨u2, g2⟩ := S2.out.second (jp + 1) (jp) (by omega) (by omega) (.float .f64 y)
                      have S3 : Aside _ := (S2.out.swap (by omega) (by omega) hx hy).drew
                      clear hx hy
                      go_wp2_with fail
                      go_region
                      clear c1 c2 f1 f2 g2
                      generalize ((w2.setCell ⟨blk, off + (jp + 1), none⟩ (.float .f64 y)).setCell ⟨blk, off + (jp), none⟩ (.float .f64 x)).drew = w3 at S3 ⊢
                      clear bi4 pi4 ei4 bj4
                      go_wp2_with fail
                      go_roundg jp
                      case measure => omega
                      case rel => exact ⟨jp, swp dj (jp + 1) jp, by go_num, by omega, Nat.le_refl _, by rw [size_swp]; exact hsj, S3, (shiftDown_go ltFl (jp + 1) dj (by omega) HV'.out).symm.trans HJ.out⟩
                    | false =>
                      have HV' : Aside _ := HV
                      clear HV
                      go_wp2_with fail
                      go_quiet (first | (go_at_call 124; refine Calls.quiet_of_same (hless _)))
                      have S2 : Aside _ := Sj.out.drewN nq
                      clear c1 c2 hless
                      generalize wr.drewN nq = w2 at S2 ⊢
                      clear nq
                      clear bi3 pi3 ei3 bj3
                      go_wp2_with fail
                      go_meet
                      case rel => exact ⟨jp + 1, dj, by go_num, hsj, S2, by show _ = _; unfold fixDown; rw [if_pos hdd]; exact HJ.out.symm.trans (shiftDown_stop ltFl (jp + 1) dj (Or.inr HV'.out))⟩
                  · have hjz : ¬ 1 ≤ (j : Int) := by omega
                    go_wp2_with fail
                    go_meet
                    case rel => exact ⟨j, dj, by go_num, hsj, Sj, by show _ = _; unfold fixDown; rw [if_pos hdd]; exact HJ.out.symm.trans (shiftDown_stop ltFl j dj (Or.inl (by omega)))⟩
              case rest =>
                clear S1
                obtain ⟨j, dd, rfl, hsdd, Sdd, HD⟩ := hcut
                by_cases hdu : 2 ≤ b - (kp + 1)
                · have hduz : 2 ≤ (b : Int) - ((kp : Int) + 1) := by omega
                  go_wp2_with fail
                  go_loopg [10] (b - (kp + 2)) (fun g vj wr => ∃ (j : Nat) (dj : Array Nat), vj = .int .i64 j ∧ kp + 2 ≤ j ∧ j ≤ b ∧ b - j ≤ g ∧ dj.size = n ∧ Aside (St1 eFl w0 blk off dj wr) ∧ Hid (shiftUp ltFl b j dj = shiftUp ltFl b (kp + 2) dd))
                  case atStart => exact ⟨(kp + 2), dd, by go_num, Nat.le_refl _, by omega, Nat.le_refl _, hsdd, Sdd, rfl⟩
                  case round =>
                    clear Sdd
                    obtain ⟨j, dj, rfl, hkj, hjb, hg, hsj, Sj, HJ⟩ := hrel
                    by_cases hj : j < b
                    · obtain ⟨jp, rfl⟩ : ∃ jp, j = jp + 1 := ⟨j - 1, by omega⟩
                      have hjz : (jp : Int) + 1 < (b : Int) := by omega
                      have bi5 : (jp : Int) + 1 < (n : Int) := by omega
                      have pi5 : (0 : Int) ≤ (jp : Int) + 1 := by omega
                      have ei5 : ((jp : Int) + 1).toNat = jp + 1 := by omega
                      have bj5 : (jp : Int) < (n : Int) := by omega
                      obtain ⟨x, hx⟩ : ∃ x, x = dj[jp + 1]! := ⟨_, rfl⟩
                      obtain ⟨y, hy⟩ : ∃ y, y = dj[jp]! := ⟨_, rfl⟩
                      have c1 : wr.cell? ⟨blk, off + (jp + 1), none⟩ = some (.float .f64 x) := by rw [hx]; exact Sj.out.cell (by omega)
                      have c2 : wr.cell? ⟨blk, off + (jp), none⟩ = some (.float .f64 y) := by rw [hy]; exact Sj.out.cell (by omega)
                      have hless : ∀ c W, ltFl x y = c → Calls Try.prog 124 #[.float .f64 x, .float .f64 y] W fun e w' => e = .returned (.bool c) ∧ w' = W := fun c W hc => by rw [← hc]; exact less_x x y W
                      obtain ⟨c, hc⟩ : ∃ c, c = ltFl x y := ⟨_, rfl⟩
                      have HV : Aside (ltFl dj[jp + 1]! dj[jp]! = c) := by show ltFl _ _ = _; rw [← hx, ← hy, hc]
                      replace hless := fun W => hless c W hc.symm
                      clear hx hy hc
                      cases c with
                      | true =>
                        have HV' : Aside _ := HV
                        clear HV
                        go_wp2_with fail
                        go_quiet (first | (go_at_call 124; refine Calls.quiet_of_same (hless _)))
                        have S2 : Aside _ := Sj.out.drewN nq
                        clear c1 c2 hless
                        generalize wr.drewN nq = w2 at S2 ⊢
                        clear nq
                        clear bi5 pi5 ei5 bj5
                        have bi6 : (jp : Int) + 1 < (n : Int) := by omega
                        have pi6 : (0 : Int) ≤ (jp : Int) + 1 := by omega
                        have ei6 : ((jp : Int) + 1).toNat = jp + 1 := by omega
                        have bj6 : (jp : Int) < (n : Int) := by omega
                        obtain ⟨x, hx⟩ : ∃ x, x = dj[jp + 1]! := ⟨_, rfl⟩
                        obtain ⟨y, hy⟩ : ∃ y, y = dj[jp]! := ⟨_, rfl⟩
                        have c1 : w2.cell? ⟨blk, off + (jp + 1), none⟩ = some (.float .f64 x) := by rw [hx]; exact S2.out.cell (by omega)
                        have c2 : w2.cell? ⟨blk, off + (jp), none⟩ = some (.float .f64 y) := by rw [hy]; exact S2.out.cell (by omega)
                        have f1 : w2.frozen? ⟨blk, off + (jp + 1), none⟩ = false := S2.out.frozen (by omega)
                        have f2 : w2.frozen? ⟨blk, off + (jp), none⟩ = false := S2.out.frozen (by omega)
                        obtain ⟨u2, g2⟩ := S2.out.second (jp + 1) (jp) (by omega) (by omega) (.float .f64 y)
                        have S3 : Aside _ := (S2.out.swap (by omega) (by omega) hx hy).drew
                        clear hx hy
                        go_wp2_with fail
                        go_region
                        clear c1 c2 f1 f2 g2
                        generalize ((w2.setCell ⟨blk, off + (jp + 1), none⟩ (.float .f64 y)).setCell ⟨blk, off + (jp), none⟩ (.float .f64 x)).drew = w3 at S3 ⊢
                        clear bi6 pi6 ei6 bj6
                        go_wp2_with fail
                        go_roundg (b - (jp + 1 + 1))
                        case measure => omega
                        case rel => exact ⟨jp + 1 + 1, swp dj (jp + 1) jp, by go_num, by omega, by omega, Nat.le_refl _, by rw [size_swp]; exact hsj, S3, (shiftUp_go ltFl b (jp + 1) dj hj HV'.out).symm.trans HJ.out⟩
                      | false =>
                        have HV' : Aside _ := HV
                        clear HV
                        go_wp2_with fail
                        go_quiet (first | (go_at_call 124; refine Calls.quiet_of_same (hless _)))
                        have S2 : Aside _ := Sj.out.drewN nq
                        clear c1 c2 hless
                        generalize wr.drewN nq = w2 at S2 ⊢
                        clear nq
                        clear bi5 pi5 ei5 bj5
                        have HU : Hid (fixUp ltFl b (kp + 1) dd = dj) := by show _ = _; unfold fixUp; rw [if_pos hdu]; exact HJ.out.symm.trans (shiftUp_stop ltFl b (jp + 1) dj (Or.inr HV'.out))
                        go_wp2_with fail
                        go_roundg (5 - (s + 1))
                        case measure => omega
                        case rel => exact ⟨kp + 1, s + 1, dj, by go_num, by go_num, by omega, by omega, by omega, Nat.le_refl _, hsj, S2, by show _ = _; rw [HP'.out, HD.out, HU.out]⟩
                    · have hjz : ¬ (j : Int) < (b : Int) := by omega
                      have HU : Hid (fixUp ltFl b (kp + 1) dd = dj) := by show _ = _; unfold fixUp; rw [if_pos hdu]; exact HJ.out.symm.trans (shiftUp_stop ltFl b j dj (Or.inl hj))
                      go_wp2_with fail
                      go_roundg (5 - (s + 1))
                      case measure => omega
                      case rel => exact ⟨kp + 1, s + 1, dj, by go_num, by go_num, by omega, by omega, by omega, Nat.le_refl _, hsj, Sj, by show _ = _; rw [HP'.out, HD.out, HU.out]⟩
                · have hduz : ¬ 2 ≤ (b : Int) - ((kp : Int) + 1) := by omega
                  have HU : Hid (fixUp ltFl b (kp + 1) dd = dd) := by show _ = _; unfold fixUp; rw [if_neg hdu]
                  go_wp2_with fail
                  go_roundg (5 - (s + 1))
                  case measure => omega
                  case rel => exact ⟨kp + 1, s + 1, dd, by go_num, by go_num, by omega, by omega, by omega, Nat.le_refl _, hsdd, Sdd, by show _ = _; rw [HP'.out, HD.out, HU.out]⟩
            · have hddz : ¬ 2 ≤ (kp : Int) + 1 - (a : Int) := by omega
              have HD : Hid (fixDown ltFl a (kp + 1) d1 = d1) := by show _ = _; unfold fixDown; rw [if_neg hdd]
              by_cases hdu : 2 ≤ b - (kp + 1)
              · have hduz : 2 ≤ (b : Int) - ((kp : Int) + 1) := by omega
                go_wp2_with fail
                go_loopg [10] (b - (kp + 2)) (fun g vj wr => ∃ (j : Nat) (dj : Array Nat), vj = .int .i64 j ∧ kp + 2 ≤ j ∧ j ≤ b ∧ b - j ≤ g ∧ dj.size = n ∧ Aside (St1 eFl w0 blk off dj wr) ∧ Hid (shiftUp ltFl b j dj = shiftUp ltFl b (kp + 2) d1))
                case atStart => exact ⟨(kp + 2), d1, by go_num, Nat.le_refl _, by omega, Nat.le_refl _, hsd1, S1, rfl⟩
                case round =>
                  clear S1
                  obtain ⟨j, dj, rfl, hkj, hjb, hg, hsj, Sj, HJ⟩ := hrel
                  by_cases hj : j < b
                  · obtain ⟨jp, rfl⟩ : ∃ jp, j = jp + 1 := ⟨j - 1, by omega⟩
                    have hjz : (jp : Int) + 1 < (b : Int) := by omega
                    have bi7 : (jp : Int) + 1 < (n : Int) := by omega
                    have pi7 : (0 : Int) ≤ (jp : Int) + 1 := by omega
                    have ei7 : ((jp : Int) + 1).toNat = jp + 1 := by omega
                    have bj7 : (jp : Int) < (n : Int) := by omega
                    obtain ⟨x, hx⟩ : ∃ x, x = dj[jp + 1]! := ⟨_, rfl⟩
                    obtain ⟨y, hy⟩ : ∃ y, y = dj[jp]! := ⟨_, rfl⟩
                    have c1 : wr.cell? ⟨blk, off + (jp + 1), none⟩ = some (.float .f64 x) := by rw [hx]; exact Sj.out.cell (by omega)
                    have c2 : wr.cell? ⟨blk, off + (jp), none⟩ = some (.float .f64 y) := by rw [hy]; exact Sj.out.cell (by omega)
                    have hless : ∀ c W, ltFl x y = c → Calls Try.prog 124 #[.float .f64 x, .float .f64 y] W fun e w' => e = .returned (.bool c) ∧ w' = W := fun c W hc => by rw [← hc]; exact less_x x y W
                    obtain ⟨c, hc⟩ : ∃ c, c = ltFl x y := ⟨_, rfl⟩
                    have HV : Aside (ltFl dj[jp + 1]! dj[jp]! = c) := by show ltFl _ _ = _; rw [← hx, ← hy, hc]
                    replace hless := fun W => hless c W hc.symm
                    clear hx hy hc
                    cases c with
                    | true =>
                      have HV' : Aside _ := HV
                      clear HV
                      go_wp2_with fail
                      go_quiet (first | (go_at_call 124; refine Calls.quiet_of_same (hless _)))
                      have S2 : Aside _ := Sj.out.drewN nq
                      clear c1 c2 hless
                      generalize wr.drewN nq = w2 at S2 ⊢
                      clear nq
                      clear bi7 pi7 ei7 bj7
                      have bi8 : (jp : Int) + 1 < (n : Int) := by omega
                      have pi8 : (0 : Int) ≤ (jp : Int) + 1 := by omega
                      have ei8 : ((jp : Int) + 1).toNat = jp + 1 := by omega
                      have bj8 : (jp : Int) < (n : Int) := by omega
                      obtain ⟨x, hx⟩ : ∃ x, x = dj[jp + 1]! := ⟨_, rfl⟩
                      obtain ⟨y, hy⟩ : ∃ y, y = dj[jp]! := ⟨_, rfl⟩
                      have c1 : w2.cell? ⟨blk, off + (jp + 1), none⟩ = some (.float .f64 x) := by rw [hx]; exact S2.out.cell (by omega)
                      have c2 : w2.cell? ⟨blk, off + (jp), none⟩ = some (.float .f64 y) := by rw [hy]; exact S2.out.cell (by omega)
                      have f1 : w2.frozen? ⟨blk, off + (jp + 1), none⟩ = false := S2.out.frozen (by omega)
                      have f2 : w2.frozen? ⟨blk, off + (jp), none⟩ = false := S2.out.frozen (by omega)
                      obtain ⟨u2, g2⟩ := S2.out.second (jp + 1) (jp) (by omega) (by omega) (.float .f64 y)
                      have S3 : Aside _ := (S2.out.swap (by omega) (by omega) hx hy).drew
                      clear hx hy
                      go_wp2_with fail
                      go_region
                      clear c1 c2 f1 f2 g2
                      generalize ((w2.setCell ⟨blk, off + (jp + 1), none⟩ (.float .f64 y)).setCell ⟨blk, off + (jp), none⟩ (.float .f64 x)).drew = w3 at S3 ⊢
                      clear bi8 pi8 ei8 bj8
                      go_wp2_with fail
                      go_roundg (b - (jp + 1 + 1))
                      case measure => omega
                      case rel => exact ⟨jp + 1 + 1, swp dj (jp + 1) jp, by go_num, by omega, by omega, Nat.le_refl _, by rw [size_swp]; exact hsj, S3, (shiftUp_go ltFl b (jp + 1) dj hj HV'.out).symm.trans HJ.out⟩
                    | false =>
                      have HV' : Aside _ := HV
                      clear HV
                      go_wp2_with fail
                      go_quiet (first | (go_at_call 124; refine Calls.quiet_of_same (hless _)))
                      have S2 : Aside _ := Sj.out.drewN nq
                      clear c1 c2 hless
                      generalize wr.drewN nq = w2 at S2 ⊢
                      clear nq
                      clear bi7 pi7 ei7 bj7
                      have HU : Hid (fixUp ltFl b (kp + 1) d1 = dj) := by show _ = _; unfold fixUp; rw [if_pos hdu]; exact HJ.out.symm.trans (shiftUp_stop ltFl b (jp + 1) dj (Or.inr HV'.out))
                      go_wp2_with fail
                      go_roundg (5 - (s + 1))
                      case measure => omega
                      case rel => exact ⟨kp + 1, s + 1, dj, by go_num, by go_num, by omega, by omega, by omega, Nat.le_refl _, hsj, S2, by show _ = _; rw [HP'.out, HD.out, HU.out]⟩
                  · have hjz : ¬ (j : Int) < (b : Int) := by omega
                    have HU : Hid (fixUp ltFl b (kp + 1) d1 = dj) := by show _ = _; unfold fixUp; rw [if_pos hdu]; exact HJ.out.symm.trans (shiftUp_stop ltFl b j dj (Or.inl hj))
                    go_wp2_with fail
                    go_roundg (5 - (s + 1))
                    case measure => omega
                    case rel => exact ⟨kp + 1, s + 1, dj, by go_num, by go_num, by omega, by omega, by omega, Nat.le_refl _, hsj, Sj, by show _ = _; rw [HP'.out, HD.out, HU.out]⟩
              · have hduz : ¬ 2 ≤ (b : Int) - ((kp : Int) + 1) := by omega
                have HU : Hid (fixUp ltFl b (kp + 1) d1 = d1) := by show _ = _; unfold fixUp; rw [if_neg hdu]
                go_wp2_with fail
                go_roundg (5 - (s + 1))
                case measure => omega
                case rel => exact ⟨kp + 1, s + 1, d1, by go_num, by go_num, by omega, by omega, by omega, Nat.le_refl _, hsd1, S1, by show _ = _; rw [HP'.out, HD.out, HU.out]⟩
    · have hsz5 : ¬ (s : Int) < 5 := by omega
      obtain rfl : s = 5 := by omega
      have HF := HO.out.symm.trans (pi_end ltFl a b i dk)
      have HF' : Hid _ := HF
      clear HF
      go_wp2_with fail
      go_ret
      rw [HF'.out]
      exact ⟨rfl, Sk.out⟩
end Go.Proofs.Ytglgmkikegbchaa
