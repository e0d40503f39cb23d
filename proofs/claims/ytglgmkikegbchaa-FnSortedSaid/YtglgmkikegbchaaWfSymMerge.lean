/- symMerge: the text over an Interface. -/
import Derived.Test.YtglgmkikegbchaaWf0
import Derived.Test.YtglgmkikegbchaaPb
import Derived.Test.YtglgmkikegbchaaWfRotate
import Derived.Test.YtglgmkikegbchaaPg
namespace Go.Proofs.Ytglgmkikegbchaa
open Go.RowKit Go.Sort

set_option maxHeartbeats 16000000 in
set_option maxRecDepth 1000000 in
theorem symMergeN_f (T : TypeId) (rv : Value) (lt : It → It → Bool) (gl gs : Nat) (rl rs : Value) (w0 : World) (blk off n : Nat) (F : FaceOk T rv lt w0 blk off n gl gs rl rs) (hsz : n < 4611686018427387904) : ∀ (N a m b : Nat) (d : Array It) (w : World), b - a < N → St2 w0 blk off d w → d.size = n → a < m → m < b → b ≤ n →
    Calls Try.prog 113 #[.iface T rv, .int .i64 a, .int .i64 m, .int .i64 b] w fun e w' => e = .returned (.tuple #[]) ∧ St2 w0 blk off (symMerge lt d a m b) w' := by
  have eL := F.eL
  have eS := F.eS
  intro N
  induction N with
  | zero => intro a m b d w h; omega
  | succ N ih =>
    intro a m b d w hN S hn ham hmb hb
    have IH : Aside _ := ih
    clear ih
    have S0 : Aside (St2 w0 blk off d w) := S
    clear S
    by_cases h1 : m - a = 1
    · have h1z : (m : Int) - (a : Int) = 1 := by omega
      have HR : Hid (symMerge lt d a m b = upLoop (bsearch (fun h => lt d[h]! d[a]!) m b - 1 - a) a d) := by show _ = _; rw [symMerge, if_pos h1]
      generalize symMerge lt d a m b = R at HR ⊢
      go_enter Try.func113, Try.ntmps113
      go_wp2_with fail
      go_loopg [8, 9] (b - m) (fun g vi vj wr => ∃ i j : Nat, vi = .int .i64 i ∧ vj = .int .i64 j ∧ m ≤ i ∧ i ≤ j ∧ j ≤ b ∧ j - i ≤ g ∧ Aside (St2 w0 blk off d wr) ∧ Hid (bsearch (fun h => lt d[h]! d[a]!) i j = bsearch (fun h => lt d[h]! d[a]!) (m) (b)))
      case atStart => exact ⟨m, b, by go_num, by go_num, Nat.le_refl _, by omega, Nat.le_refl _, Nat.le_refl _, S0, rfl⟩
      case round =>
        obtain ⟨i, j, rfl, rfl, hli, hij, hjh, hg, Sk, HP⟩ := hrel
        by_cases hlt : i < j
        · have hltz : (i : Int) < (j : Int) := by omega
          obtain ⟨M, hM⟩ : ∃ M, M = (i + j) / 2 := ⟨_, rfl⟩
          have hMz : ((i : Int) + (j : Int)) / 2 = (M : Int) := by omega
          have hM1 : i ≤ M := by omega
          have hM2 : M < j := by omega
          have HM : Aside (M = (i + j) / 2) := hM
          clear hM
          have mL := F.methL _ wr Sk.out
          have mS := F.methS _ wr Sk.out
          have hl := F.less d wr (M) (a) (by omega) Sk.out (by omega) (by omega)
          obtain ⟨c, hc⟩ : ∃ c, c = lt d[M]! d[a]! := ⟨_, rfl⟩
          rw [← hc] at hl
          have HV : Aside (lt d[M]! d[a]! = c) := hc.symm
          clear hc
          cases c with
          | true =>
            have HV' : Aside _ := HV
            clear HV
            go_wp2_with fail
            refine hl.mono ?_
            rintro e w' ⟨rfl, q, os, rfl⟩
            have S2 : Aside _ := Sk.out.grow q os
            clear mL mS hl
            generalize grow (wr.drewN q) os = w2 at S2 ⊢
            clear q os
            have mL := F.methL _ w2 S2.out
            have mS := F.methS _ w2 S2.out
            go_wp2_with fail
            go_roundg (j - (M + 1))
            case measure => omega
            case rel => exact ⟨M + 1, j, by go_num, rfl, by omega, by omega, hjh, Nat.le_refl _, S2, by show _ = _; rw [← HP.out]; conv => rhs; rw [bsearch, dif_pos hlt, ← HM.out, if_pos (by exact HV'.out)]⟩
          | false =>
            have HV' : Aside _ := HV
            clear HV
            go_wp2_with fail
            refine hl.mono ?_
            rintro e w' ⟨rfl, q, os, rfl⟩
            have S2 : Aside _ := Sk.out.grow q os
            clear mL mS hl
            generalize grow (wr.drewN q) os = w2 at S2 ⊢
            clear q os
            have mL := F.methL _ w2 S2.out
            have mS := F.methS _ w2 S2.out
            go_wp2_with fail
            go_roundg (M - i)
            case measure => omega
            case rel => exact ⟨i, M, rfl, rfl, hli, hM1, by omega, Nat.le_refl _, S2, by show _ = _; rw [← HP.out]; conv => rhs; rw [bsearch, dif_pos hlt, ← HM.out, if_neg (by rw [HV'.out]; exact Bool.false_ne_true)]⟩
        · have hltz : ¬ (i : Int) < (j : Int) := by omega
          obtain rfl : j = i := by omega
          have hPb : bsearch (fun h => lt d[h]! d[a]!) (m) (b) = j := by rw [← HP.out, bsearch, dif_neg (by omega)]
          have HPb : Aside _ := hPb
          clear hPb HP
          obtain ⟨P, rfl⟩ : ∃ P, j = P + 1 := ⟨j - 1, by omega⟩
          rw [HPb.out, Nat.add_sub_cancel] at HR
          go_wp2_with fail
          go_loopg [11] (P - a) (fun g vk wr => ∃ (k : Nat) (dk : Array It), vk = .int .i64 k ∧ a ≤ k ∧ k ≤ P ∧ P - k ≤ g ∧ dk.size = n ∧ Aside (St2 w0 blk off dk wr) ∧ Hid (upLoop (P - k) k dk = R))
          case atStart => exact ⟨a, d, rfl, Nat.le_refl _, by omega, Nat.le_refl _, hn, Sk, HR.out.symm⟩
          case round =>
            clear Sk
            obtain ⟨k, dk, rfl, hak, hkP, hgk, hsk, Sk, HU⟩ := hrel
            by_cases hk : k < P
            · have hkz : (k : Int) < (P : Int) := by omega
              have mL := F.methL _ wr Sk.out
              have mS := F.methS _ wr Sk.out
              have hs := F.swap dk wr (k) (k + 1) (by omega) Sk.out (by omega) (by omega)
              rw [show ((k + 1 : Nat) : Int) = (k : Int) + 1 by omega] at hs
              go_wp2_with fail
              refine hs.mono ?_
              rintro e w2 ⟨rfl, S2q, hgr⟩
              have S2 : Aside _ := S2q
              clear mL mS hs hgr S2q
              have mL := F.methL _ w2 S2.out
              have mS := F.methS _ w2 S2.out
              go_wp2_with fail
              go_roundg (P - (k + 1))
              case measure => omega
              case rel => exact ⟨k + 1, swp dk k (k + 1), by go_num, by omega, by omega, Nat.le_refl _, by rw [size_swp]; exact hsk, S2, by show _ = _; rw [← HU.out, show P - k = (P - (k + 1)) + 1 by omega]; rfl⟩
            · have hkz : ¬ (k : Int) < (P : Int) := by omega
              obtain rfl : k = P := by omega
              have hB : dk = R := by have := HU.out; rwa [Nat.sub_self] at this
              subst hB
              go_wp2_with fail
              (try simp only [Exit.inBlock, Exit.then]); refine bodyPost_ret (results_none rfl _ _ _) rfl ?_
              exact ⟨rfl, Sk.out⟩
    · have h1z : ¬ (m : Int) - (a : Int) = 1 := by omega
      have h1e : ((m : Int) - (a : Int) == 1) = false := by rw [beq_eq_false_iff_ne]; omega
      by_cases h2 : b - m = 1
      · have h2z : (b : Int) - (m : Int) = 1 := by omega
        have HR : Hid (symMerge lt d a m b = downLoop (m - bsearch (fun h => !lt d[m]! d[h]!) a m) m d) := by show _ = _; rw [symMerge, if_neg h1, if_pos h2]
        generalize symMerge lt d a m b = R at HR ⊢
        go_enter Try.func113, Try.ntmps113
        go_wp2_with fail
        go_loopg [12, 13] (m - a) (fun g vi vj wr => ∃ i j : Nat, vi = .int .i64 i ∧ vj = .int .i64 j ∧ a ≤ i ∧ i ≤ j ∧ j ≤ m ∧ j - i ≤ g ∧ Aside (St2 w0 blk off d wr) ∧ Hid (bsearch (fun h => !lt d[m]! d[h]!) i j = bsearch (fun h => !lt d[m]! d[h]!) (a) (m)))
        case atStart => exact ⟨a, m, by go_num, by go_num, Nat.le_refl _, by omega, Nat.le_refl _, Nat.le_refl _, S0, rfl⟩
        case round =>
          obtain ⟨i, j, rfl, rfl, hli, hij, hjh, hg, Sk, HP⟩ := hrel
          by_cases hlt : i < j
          · have hltz : (i : Int) < (j : Int) := by omega
            obtain ⟨M, hM⟩ : ∃ M, M = (i + j) / 2 := ⟨_, rfl⟩
            have hMz : ((i : Int) + (j : Int)) / 2 = (M : Int) := by omega
            have hM1 : i ≤ M := by omega
            have hM2 : M < j := by omega
            have HM : Aside (M = (i + j) / 2) := hM
            clear hM
            have mL := F.methL _ wr Sk.out
            have mS := F.methS _ wr Sk.out
            have hl := F.less d wr (m) (M) (by omega) Sk.out (by omega) (by omega)
            obtain ⟨c, hc⟩ : ∃ c, c = lt d[m]! d[M]! := ⟨_, rfl⟩
            rw [← hc] at hl
            have HV : Aside (lt d[m]! d[M]! = c) := hc.symm
            clear hc
            cases c with
            | true =>
              have HV' : Aside _ := HV
              clear HV
              go_wp2_with fail
              refine hl.mono ?_
              rintro e w' ⟨rfl, q, os, rfl⟩
              have S2 : Aside _ := Sk.out.grow q os
              clear mL mS hl
              generalize grow (wr.drewN q) os = w2 at S2 ⊢
              clear q os
              have mL := F.methL _ w2 S2.out
              have mS := F.methS _ w2 S2.out
              go_wp2_with fail
              go_roundg (M - i)
              case measure => omega
              case rel => exact ⟨i, M, rfl, rfl, hli, hM1, by omega, Nat.le_refl _, S2, by show _ = _; rw [← HP.out]; conv => rhs; rw [bsearch, dif_pos hlt, ← HM.out, if_neg (by rw [HV'.out]; exact Bool.false_ne_true)]⟩
            | false =>
              have HV' : Aside _ := HV
              clear HV
              go_wp2_with fail
              refine hl.mono ?_
              rintro e w' ⟨rfl, q, os, rfl⟩
              have S2 : Aside _ := Sk.out.grow q os
              clear mL mS hl
              generalize grow (wr.drewN q) os = w2 at S2 ⊢
              clear q os
              have mL := F.methL _ w2 S2.out
              have mS := F.methS _ w2 S2.out
              go_wp2_with fail
              go_roundg (j - (M + 1))
              case measure => omega
              case rel => exact ⟨M + 1, j, by go_num, rfl, by omega, by omega, hjh, Nat.le_refl _, S2, by show _ = _; rw [← HP.out]; conv => rhs; rw [bsearch, dif_pos hlt, ← HM.out, if_pos (by rw [HV'.out]; rfl)]⟩
          · have hltz : ¬ (i : Int) < (j : Int) := by omega
            obtain rfl : j = i := by omega
            have hPb : bsearch (fun h => !lt d[m]! d[h]!) (a) (m) = j := by rw [← HP.out, bsearch, dif_neg (by omega)]
            have HPb : Aside _ := hPb
            clear hPb HP
            rw [HPb.out] at HR
            go_wp2_with fail
            go_loopg [15] (m - j) (fun g vk wr => ∃ (k : Nat) (dk : Array It), vk = .int .i64 k ∧ j ≤ k ∧ k ≤ m ∧ k - j ≤ g ∧ dk.size = n ∧ Aside (St2 w0 blk off dk wr) ∧ Hid (downLoop (k - j) k dk = R))
            case atStart => exact ⟨m, d, rfl, by omega, Nat.le_refl _, Nat.le_refl _, hn, Sk, HR.out.symm⟩
            case round =>
              clear Sk
              obtain ⟨k, dk, rfl, hjk, hkm, hgk, hsk, Sk, HU⟩ := hrel
              by_cases hk : j < k
              · obtain ⟨kp, rfl⟩ : ∃ kp, k = kp + 1 := ⟨k - 1, by omega⟩
                have hkz : (j : Int) < (kp : Int) + 1 := by omega
                have mL := F.methL _ wr Sk.out
                have mS := F.methS _ wr Sk.out
                have hs := F.swap dk wr (kp + 1) (kp) (by omega) Sk.out (by omega) (by omega)
                rw [show ((kp + 1 : Nat) : Int) = (kp : Int) + 1 by omega] at hs
                go_wp2_with fail
                refine hs.mono ?_
                rintro e w2 ⟨rfl, S2q, hgr⟩
                have S2 : Aside _ := S2q
                clear mL mS hs hgr S2q
                have mL := F.methL _ w2 S2.out
                have mS := F.methS _ w2 S2.out
                go_wp2_with fail
                go_roundg (kp - j)
                case measure => omega
                case rel => exact ⟨kp, swp dk (kp + 1) kp, by go_num, by omega, by omega, Nat.le_refl _, by rw [size_swp]; exact hsk, S2, by show _ = _; rw [← HU.out, show kp + 1 - j = (kp - j) + 1 by omega]; rfl⟩
              · have hkz : ¬ (j : Int) < (k : Int) := by omega
                obtain rfl : k = j := by omega
                have hB : dk = R := by have := HU.out; rwa [Nat.sub_self] at this
                subst hB
                go_wp2_with fail
                (try simp only [Exit.inBlock, Exit.then]); refine bodyPost_ret (results_none rfl _ _ _) rfl ?_
                exact ⟨rfl, Sk.out⟩
      · have h2z : ¬ (b : Int) - (m : Int) = 1 := by omega
        have h2e : ((b : Int) - (m : Int) == 1) = false := by rw [beq_eq_false_iff_ne]; omega
        obtain ⟨D, hD⟩ : ∃ D, D = (a + b) / 2 := ⟨_, rfl⟩
        have hDz : ((a : Int) + (b : Int)) / 2 = (D : Int) := by omega
        have hD1 : a < D := by omega
        have hD2 : D < b := by omega
        have hD3 : 2 * D ≤ a + b := by omega
        have hD4 : a + b ≤ 2 * D + 1 := by omega
        have HD : Aside (D = (a + b) / 2) := hD
        clear hD
        by_cases h3 : D < m
        · have h3z : (D : Int) < (m : Int) := by omega
          obtain ⟨s0, hs0⟩ : ∃ s0, s0 = D + m - b := ⟨_, rfl⟩
          have hsz0 : (D : Int) + (m : Int) - (b : Int) = (s0 : Int) := by omega
          have q1 : s0 ≤ D := by omega
          have q2 : D + m ≤ s0 + b := by omega
          have q5 : a ≤ s0 := by omega
          have HS0 : Aside (D + m - b = s0) := hs0.symm
          clear hs0
          go_enter Try.func113, Try.ntmps113
          go_wp2_with fail
          go_loopg [18, 19] (D - s0) (fun g vi vj wr => ∃ i j : Nat, vi = .int .i64 i ∧ vj = .int .i64 j ∧ s0 ≤ i ∧ i ≤ j ∧ j ≤ D ∧ j - i ≤ g ∧ Aside (St2 w0 blk off d wr) ∧ Hid (bsearch (fun c => !lt d[D + m - 1 - c]! d[c]!) i j = bsearch (fun c => !lt d[D + m - 1 - c]! d[c]!) (s0) (D)))
          case atStart => exact ⟨s0, D, by go_num, by go_num, Nat.le_refl _, by omega, Nat.le_refl _, Nat.le_refl _, S0, rfl⟩
          case round =>
            obtain ⟨i, j, rfl, rfl, hli, hij, hjh, hg, Sk, HP⟩ := hrel
            by_cases hlt : i < j
            · have hltz : (i : Int) < (j : Int) := by omega
              obtain ⟨M, hM⟩ : ∃ M, M = (i + j) / 2 := ⟨_, rfl⟩
              have hMz : ((i : Int) + (j : Int)) / 2 = (M : Int) := by omega
              have hM1 : i ≤ M := by omega
              have hM2 : M < j := by omega
              have HM : Aside (M = (i + j) / 2) := hM
              clear hM
              obtain ⟨PC, hPC⟩ : ∃ PC, PC = D + m - 1 - M := ⟨_, rfl⟩
              have hPCz : (D : Int) + (m : Int) - 1 - (M : Int) = (PC : Int) := by omega
              have hPC1 : PC < n := by omega
              have HPC : Aside (PC = D + m - 1 - M) := hPC
              clear hPC
              have mL := F.methL _ wr Sk.out
              have mS := F.methS _ wr Sk.out
              have hl := F.less d wr (PC) (M) (by omega) Sk.out (by omega) (by omega)
              obtain ⟨c, hc⟩ : ∃ c, c = lt d[PC]! d[M]! := ⟨_, rfl⟩
              rw [← hc] at hl
              have HV : Aside (lt d[PC]! d[M]! = c) := hc.symm
              clear hc
              cases c with
              | true =>
                have HV' : Aside _ := HV
                clear HV
                go_wp2_with fail
                refine hl.mono ?_
                rintro e w' ⟨rfl, q, os, rfl⟩
                have S2 : Aside _ := Sk.out.grow q os
                clear mL mS hl
                generalize grow (wr.drewN q) os = w2 at S2 ⊢
                clear q os
                have mL := F.methL _ w2 S2.out
                have mS := F.methS _ w2 S2.out
                go_wp2_with fail
                go_roundg (M - i)
                case measure => omega
                case rel => exact ⟨i, M, rfl, rfl, hli, hM1, by omega, Nat.le_refl _, S2, by show _ = _; rw [← HP.out]; conv => rhs; rw [bsearch, dif_pos hlt, ← HM.out, if_neg (by show ¬ (!lt d[D + m - 1 - M]! d[M]!) = true; rw [← HPC.out]; rw [HV'.out]; exact Bool.false_ne_true)]⟩
              | false =>
                have HV' : Aside _ := HV
                clear HV
                go_wp2_with fail
                refine hl.mono ?_
                rintro e w' ⟨rfl, q, os, rfl⟩
                have S2 : Aside _ := Sk.out.grow q os
                clear mL mS hl
                generalize grow (wr.drewN q) os = w2 at S2 ⊢
                clear q os
                have mL := F.methL _ w2 S2.out
                have mS := F.methS _ w2 S2.out
                go_wp2_with fail
                go_roundg (j - (M + 1))
                case measure => omega
                case rel => exact ⟨M + 1, j, by go_num, rfl, by omega, by omega, hjh, Nat.le_refl _, S2, by show _ = _; rw [← HP.out]; conv => rhs; rw [bsearch, dif_pos hlt, ← HM.out, if_pos (by show (!lt d[D + m - 1 - M]! d[M]!) = true; rw [← HPC.out]; rw [HV'.out]; rfl)]⟩
            · have hltz : ¬ (i : Int) < (j : Int) := by omega
              obtain rfl : j = i := by omega
              have hPb : bsearch (fun c => !lt d[D + m - 1 - c]! d[c]!) (s0) (D) = j := by rw [← HP.out, bsearch, dif_neg (by omega)]
              have HPb : Aside _ := hPb
              clear hPb HP
              obtain ⟨E, hE⟩ : ∃ E, E = D + m - j := ⟨_, rfl⟩
              have hEz : (D : Int) + (m : Int) - (j : Int) = (E : Int) := by omega
              have hEb : E ≤ b := by omega
              have HE : Aside (D + m - j = E) := hE.symm
              clear hE
              have mL := F.methL _ wr Sk.out
              have mS := F.methS _ wr Sk.out
              rcases (show (j < m ∧ m < E) ∨ (¬ j < m) ∨ (j < m ∧ ¬ m < E) by omega) with ⟨c1a, c1b⟩ | c1a | ⟨c1a, c1b⟩
              · have c1x : (j : Int) < (m : Int) := by omega
                have c1y : (m : Int) < (E : Int) := by omega
                have hc6 := rotate_f T rv lt gl gs rl rs w0 blk off n F d wr Sk.out hn hsz j m E c1a c1b (by omega)
                have hz1 : (rotate d j m E).size = n := (rotate_spec d j m E c1a c1b (by omega)).2.1.trans hn
                go_wp2_with fail
                refine hc6.mono ?_
                rintro e w2 ⟨rfl, S2q⟩
                have S2 : Aside _ := S2q
                clear hc6 S2q
                clear mL mS
                have mL := F.methL _ w2 S2.out
                have mS := F.methS _ w2 S2.out
                rcases (show (a < j ∧ j < D) ∨ (¬ a < j) ∨ (a < j ∧ ¬ j < D) by omega) with ⟨c2a, c2b⟩ | c2a | ⟨c2a, c2b⟩
                · have c2x : (a : Int) < (j : Int) := by omega
                  have c2y : (j : Int) < (D : Int) := by omega
                  have hc30 := IH.out a j D (rotate d j m E) w2 (by omega) S2.out hz1 c2a c2b (by omega)
                  have hz2 : (symMerge lt (rotate d j m E) a j D).size = n := (symMerge_perm lt _ a j D (rotate d j m E) (Nat.le_refl _) c2a c2b (by rw [hz1]; omega)).1.trans hz1
                  go_wp2_with fail
                  refine hc30.mono ?_
                  rintro e w3 ⟨rfl, S3q⟩
                  have S3 : Aside _ := S3q
                  clear hc30 S3q
                  clear mL mS
                  have mL := F.methL _ w3 S3.out
                  have mS := F.methS _ w3 S3.out
                  rcases (show (D < E ∧ E < b) ∨ (¬ D < E) ∨ (D < E ∧ ¬ E < b) by omega) with ⟨c3a, c3b⟩ | c3a | ⟨c3a, c3b⟩
                  · have c3x : (D : Int) < (E : Int) := by omega
                    have c3y : (E : Int) < (b : Int) := by omega
                    have hc31 := IH.out D E b (symMerge lt (rotate d j m E) a j D) w3 (by omega) S3.out hz2 c3a c3b hb
                    go_wp2_with fail
                    refine hc31.mono ?_
                    rintro e w4 ⟨rfl, S4q⟩
                    have S4 : Aside _ := S4q
                    clear hc31 S4q
                    clear mL mS
                    have mL := F.methL _ w4 S4.out
                    have mS := F.methS _ w4 S4.out
                    go_wp2_with fail
                    go_end0
                    refine ⟨rfl, ?_⟩
                    have hfin := symMerge_open lt d a m b h1 h2 D j E (rotate d j m E) (symMerge lt (rotate d j m E) a j D) HD.out ⟨hD1, hD2⟩ (by rw [if_pos h3, if_pos h3, HS0.out]; exact HPb.out.symm) HE.out.symm (by rw [if_pos ⟨c1a, c1b⟩]) (by rw [if_pos ⟨c2a, c2b⟩])
                    rw [if_pos ⟨c3a, c3b⟩] at hfin
                    rw [hfin]
                    exact S4.out
                  · have c3x : ¬ (D : Int) < (E : Int) := by omega
                    go_wp2_with fail
                    go_end0
                    refine ⟨rfl, ?_⟩
                    have hfin := symMerge_open lt d a m b h1 h2 D j E (rotate d j m E) (symMerge lt (rotate d j m E) a j D) HD.out ⟨hD1, hD2⟩ (by rw [if_pos h3, if_pos h3, HS0.out]; exact HPb.out.symm) HE.out.symm (by rw [if_pos ⟨c1a, c1b⟩]) (by rw [if_pos ⟨c2a, c2b⟩])
                    rw [if_neg (fun h => c3a h.1)] at hfin
                    rw [hfin]
                    exact S3.out
                  · have c3x : (D : Int) < (E : Int) := by omega
                    have c3y : ¬ (E : Int) < (b : Int) := by omega
                    go_wp2_with fail
                    go_end0
                    refine ⟨rfl, ?_⟩
                    have hfin := symMerge_open lt d a m b h1 h2 D j E (rotate d j m E) (symMerge lt (rotate d j m E) a j D) HD.out ⟨hD1, hD2⟩ (by rw [if_pos h3, if_pos h3, HS0.out]; exact HPb.out.symm) HE.out.symm (by rw [if_pos ⟨c1a, c1b⟩]) (by rw [if_pos ⟨c2a, c2b⟩])
                    rw [if_neg (fun h => c3b h.2)] at hfin
                    rw [hfin]
                    exact S3.out
                · have c2x : ¬ (a : Int) < (j : Int) := by omega
                  rcases (show (D < E ∧ E < b) ∨ (¬ D < E) ∨ (D < E ∧ ¬ E < b) by omega) with ⟨c3a, c3b⟩ | c3a | ⟨c3a, c3b⟩
                  · have c3x : (D : Int) < (E : Int) := by omega
                    have c3y : (E : Int) < (b : Int) := by omega
                    have hc31 := IH.out D E b (rotate d j m E) w2 (by omega) S2.out hz1 c3a c3b hb
                    go_wp2_with fail
                    refine hc31.mono ?_
                    rintro e w4 ⟨rfl, S4q⟩
                    have S4 : Aside _ := S4q
                    clear hc31 S4q
                    clear mL mS
                    have mL := F.methL _ w4 S4.out
                    have mS := F.methS _ w4 S4.out
                    go_wp2_with fail
                    go_end0
                    refine ⟨rfl, ?_⟩
                    have hfin := symMerge_open lt d a m b h1 h2 D j E (rotate d j m E) (rotate d j m E) HD.out ⟨hD1, hD2⟩ (by rw [if_pos h3, if_pos h3, HS0.out]; exact HPb.out.symm) HE.out.symm (by rw [if_pos ⟨c1a, c1b⟩]) (by rw [if_neg (fun h => c2a h.1)])
                    rw [if_pos ⟨c3a, c3b⟩] at hfin
                    rw [hfin]
                    exact S4.out
                  · have c3x : ¬ (D : Int) < (E : Int) := by omega
                    go_wp2_with fail
                    go_end0
                    refine ⟨rfl, ?_⟩
                    have hfin := symMerge_open lt d a m b h1 h2 D j E (rotate d j m E) (rotate d j m E) HD.out ⟨hD1, hD2⟩ (by rw [if_pos h3, if_pos h3, HS0.out]; exact HPb.out.symm) HE.out.symm (by rw [if_pos ⟨c1a, c1b⟩]) (by rw [if_neg (fun h => c2a h.1)])
                    rw [if_neg (fun h => c3a h.1)] at hfin
                    rw [hfin]
                    exact S2.out
                  · have c3x : (D : Int) < (E : Int) := by omega
                    have c3y : ¬ (E : Int) < (b : Int) := by omega
                    go_wp2_with fail
                    go_end0
                    refine ⟨rfl, ?_⟩
                    have hfin := symMerge_open lt d a m b h1 h2 D j E (rotate d j m E) (rotate d j m E) HD.out ⟨hD1, hD2⟩ (by rw [if_pos h3, if_pos h3, HS0.out]; exact HPb.out.symm) HE.out.symm (by rw [if_pos ⟨c1a, c1b⟩]) (by rw [if_neg (fun h => c2a h.1)])
                    rw [if_neg (fun h => c3b h.2)] at hfin
                    rw [hfin]
                    exact S2.out
                · have c2x : (a : Int) < (j : Int) := by omega
                  have c2y : ¬ (j : Int) < (D : Int) := by omega
                  rcases (show (D < E ∧ E < b) ∨ (¬ D < E) ∨ (D < E ∧ ¬ E < b) by omega) with ⟨c3a, c3b⟩ | c3a | ⟨c3a, c3b⟩
                  · have c3x : (D : Int) < (E : Int) := by omega
                    have c3y : (E : Int) < (b : Int) := by omega
                    have hc31 := IH.out D E b (rotate d j m E) w2 (by omega) S2.out hz1 c3a c3b hb
                    go_wp2_with fail
                    refine hc31.mono ?_
                    rintro e w4 ⟨rfl, S4q⟩
                    have S4 : Aside _ := S4q
                    clear hc31 S4q
                    clear mL mS
                    have mL := F.methL _ w4 S4.out
                    have mS := F.methS _ w4 S4.out
                    go_wp2_with fail
                    go_end0
                    refine ⟨rfl, ?_⟩
                    have hfin := symMerge_open lt d a m b h1 h2 D j E (rotate d j m E) (rotate d j m E) HD.out ⟨hD1, hD2⟩ (by rw [if_pos h3, if_pos h3, HS0.out]; exact HPb.out.symm) HE.out.symm (by rw [if_pos ⟨c1a, c1b⟩]) (by rw [if_neg (fun h => c2b h.2)])
                    rw [if_pos ⟨c3a, c3b⟩] at hfin
                    rw [hfin]
                    exact S4.out
                  · have c3x : ¬ (D : Int) < (E : Int) := by omega
                    go_wp2_with fail
                    go_end0
                    refine ⟨rfl, ?_⟩
                    have hfin := symMerge_open lt d a m b h1 h2 D j E (rotate d j m E) (rotate d j m E) HD.out ⟨hD1, hD2⟩ (by rw [if_pos h3, if_pos h3, HS0.out]; exact HPb.out.symm) HE.out.symm (by rw [if_pos ⟨c1a, c1b⟩]) (by rw [if_neg (fun h => c2b h.2)])
                    rw [if_neg (fun h => c3a h.1)] at hfin
                    rw [hfin]
                    exact S2.out
                  · have c3x : (D : Int) < (E : Int) := by omega
                    have c3y : ¬ (E : Int) < (b : Int) := by omega
                    go_wp2_with fail
                    go_end0
                    refine ⟨rfl, ?_⟩
                    have hfin := symMerge_open lt d a m b h1 h2 D j E (rotate d j m E) (rotate d j m E) HD.out ⟨hD1, hD2⟩ (by rw [if_pos h3, if_pos h3, HS0.out]; exact HPb.out.symm) HE.out.symm (by rw [if_pos ⟨c1a, c1b⟩]) (by rw [if_neg (fun h => c2b h.2)])
                    rw [if_neg (fun h => c3b h.2)] at hfin
                    rw [hfin]
                    exact S2.out
              · have c1x : ¬ (j : Int) < (m : Int) := by omega
                rcases (show (a < j ∧ j < D) ∨ (¬ a < j) ∨ (a < j ∧ ¬ j < D) by omega) with ⟨c2a, c2b⟩ | c2a | ⟨c2a, c2b⟩
                · have c2x : (a : Int) < (j : Int) := by omega
                  have c2y : (j : Int) < (D : Int) := by omega
                  have hc30 := IH.out a j D (d) wr (by omega) Sk.out hn c2a c2b (by omega)
                  have hz2 : (symMerge lt (d) a j D).size = n := (symMerge_perm lt _ a j D (d) (Nat.le_refl _) c2a c2b (by rw [hn]; omega)).1.trans hn
                  go_wp2_with fail
                  refine hc30.mono ?_
                  rintro e w3 ⟨rfl, S3q⟩
                  have S3 : Aside _ := S3q
                  clear hc30 S3q
                  clear mL mS
                  have mL := F.methL _ w3 S3.out
                  have mS := F.methS _ w3 S3.out
                  rcases (show (D < E ∧ E < b) ∨ (¬ D < E) ∨ (D < E ∧ ¬ E < b) by omega) with ⟨c3a, c3b⟩ | c3a | ⟨c3a, c3b⟩
                  · have c3x : (D : Int) < (E : Int) := by omega
                    have c3y : (E : Int) < (b : Int) := by omega
                    have hc31 := IH.out D E b (symMerge lt (d) a j D) w3 (by omega) S3.out hz2 c3a c3b hb
                    go_wp2_with fail
                    refine hc31.mono ?_
                    rintro e w4 ⟨rfl, S4q⟩
                    have S4 : Aside _ := S4q
                    clear hc31 S4q
                    clear mL mS
                    have mL := F.methL _ w4 S4.out
                    have mS := F.methS _ w4 S4.out
                    go_wp2_with fail
                    go_end0
                    refine ⟨rfl, ?_⟩
                    have hfin := symMerge_open lt d a m b h1 h2 D j E (d) (symMerge lt (d) a j D) HD.out ⟨hD1, hD2⟩ (by rw [if_pos h3, if_pos h3, HS0.out]; exact HPb.out.symm) HE.out.symm (by rw [if_neg (fun h => c1a h.1)]) (by rw [if_pos ⟨c2a, c2b⟩])
                    rw [if_pos ⟨c3a, c3b⟩] at hfin
                    rw [hfin]
                    exact S4.out
                  · have c3x : ¬ (D : Int) < (E : Int) := by omega
                    go_wp2_with fail
                    go_end0
                    refine ⟨rfl, ?_⟩
                    have hfin := symMerge_open lt d a m b h1 h2 D j E (d) (symMerge lt (d) a j D) HD.out ⟨hD1, hD2⟩ (by rw [if_pos h3, if_pos h3, HS0.out]; exact HPb.out.symm) HE.out.symm (by rw [if_neg (fun h => c1a h.1)]) (by rw [if_pos ⟨c2a, c2b⟩])
                    rw [if_neg (fun h => c3a h.1)] at hfin
                    rw [hfin]
                    exact S3.out
                  · have c3x : (D : Int) < (E : Int) := by omega
                    have c3y : ¬ (E : Int) < (b : Int) := by omega
                    go_wp2_with fail
                    go_end0
                    refine ⟨rfl, ?_⟩
                    have hfin := symMerge_open lt d a m b h1 h2 D j E (d) (symMerge lt (d) a j D) HD.out ⟨hD1, hD2⟩ (by rw [if_pos h3, if_pos h3, HS0.out]; exact HPb.out.symm) HE.out.symm (by rw [if_neg (fun h => c1a h.1)]) (by rw [if_pos ⟨c2a, c2b⟩])
                    rw [if_neg (fun h => c3b h.2)] at hfin
                    rw [hfin]
                    exact S3.out
                · have c2x : ¬ (a : Int) < (j : Int) := by omega
                  rcases (show (D < E ∧ E < b) ∨ (¬ D < E) ∨ (D < E ∧ ¬ E < b) by omega) with ⟨c3a, c3b⟩ | c3a | ⟨c3a, c3b⟩
                  · have c3x : (D : Int) < (E : Int) := by omega
                    have c3y : (E : Int) < (b : Int) := by omega
                    have hc31 := IH.out D E b (d) wr (by omega) Sk.out hn c3a c3b hb
                    go_wp2_with fail
                    refine hc31.mono ?_
                    rintro e w4 ⟨rfl, S4q⟩
                    have S4 : Aside _ := S4q
                    clear hc31 S4q
                    clear mL mS
                    have mL := F.methL _ w4 S4.out
                    have mS := F.methS _ w4 S4.out
                    go_wp2_with fail
                    go_end0
                    refine ⟨rfl, ?_⟩
                    have hfin := symMerge_open lt d a m b h1 h2 D j E (d) (d) HD.out ⟨hD1, hD2⟩ (by rw [if_pos h3, if_pos h3, HS0.out]; exact HPb.out.symm) HE.out.symm (by rw [if_neg (fun h => c1a h.1)]) (by rw [if_neg (fun h => c2a h.1)])
                    rw [if_pos ⟨c3a, c3b⟩] at hfin
                    rw [hfin]
                    exact S4.out
                  · have c3x : ¬ (D : Int) < (E : Int) := by omega
                    go_wp2_with fail
                    go_end0
                    refine ⟨rfl, ?_⟩
                    have hfin := symMerge_open lt d a m b h1 h2 D j E (d) (d) HD.out ⟨hD1, hD2⟩ (by rw [if_pos h3, if_pos h3, HS0.out]; exact HPb.out.symm) HE.out.symm (by rw [if_neg (fun h => c1a h.1)]) (by rw [if_neg (fun h => c2a h.1)])
                    rw [if_neg (fun h => c3a h.1)] at hfin
                    rw [hfin]
                    exact Sk.out
                  · have c3x : (D : Int) < (E : Int) := by omega
                    have c3y : ¬ (E : Int) < (b : Int) := by omega
                    go_wp2_with fail
                    go_end0
                    refine ⟨rfl, ?_⟩
                    have hfin := symMerge_open lt d a m b h1 h2 D j E (d) (d) HD.out ⟨hD1, hD2⟩ (by rw [if_pos h3, if_pos h3, HS0.out]; exact HPb.out.symm) HE.out.symm (by rw [if_neg (fun h => c1a h.1)]) (by rw [if_neg (fun h => c2a h.1)])
                    rw [if_neg (fun h => c3b h.2)] at hfin
                    rw [hfin]
                    exact Sk.out
                · have c2x : (a : Int) < (j : Int) := by omega
                  have c2y : ¬ (j : Int) < (D : Int) := by omega
                  rcases (show (D < E ∧ E < b) ∨ (¬ D < E) ∨ (D < E ∧ ¬ E < b) by omega) with ⟨c3a, c3b⟩ | c3a | ⟨c3a, c3b⟩
                  · have c3x : (D : Int) < (E : Int) := by omega
                    have c3y : (E : Int) < (b : Int) := by omega
                    have hc31 := IH.out D E b (d) wr (by omega) Sk.out hn c3a c3b hb
                    go_wp2_with fail
                    refine hc31.mono ?_
                    rintro e w4 ⟨rfl, S4q⟩
                    have S4 : Aside _ := S4q
                    clear hc31 S4q
                    clear mL mS
                    have mL := F.methL _ w4 S4.out
                    have mS := F.methS _ w4 S4.out
                    go_wp2_with fail
                    go_end0
                    refine ⟨rfl, ?_⟩
                    have hfin := symMerge_open lt d a m b h1 h2 D j E (d) (d) HD.out ⟨hD1, hD2⟩ (by rw [if_pos h3, if_pos h3, HS0.out]; exact HPb.out.symm) HE.out.symm (by rw [if_neg (fun h => c1a h.1)]) (by rw [if_neg (fun h => c2b h.2)])
                    rw [if_pos ⟨c3a, c3b⟩] at hfin
                    rw [hfin]
                    exact S4.out
                  · have c3x : ¬ (D : Int) < (E : Int) := by omega
                    go_wp2_with fail
                    go_end0
                    refine ⟨rfl, ?_⟩
                    have hfin := symMerge_open lt d a m b h1 h2 D j E (d) (d) HD.out ⟨hD1, hD2⟩ (by rw [if_pos h3, if_pos h3, HS0.out]; exact HPb.out.symm) HE.out.symm (by rw [if_neg (fun h => c1a h.1)]) (by rw [if_neg (fun h => c2b h.2)])
                    rw [if_neg (fun h => c3a h.1)] at hfin
                    rw [hfin]
                    exact Sk.out
                  · have c3x : (D : Int) < (E : Int) := by omega
                    have c3y : ¬ (E : Int) < (b : Int) := by omega
                    go_wp2_with fail
                    go_end0
                    refine ⟨rfl, ?_⟩
                    have hfin := symMerge_open lt d a m b h1 h2 D j E (d) (d) HD.out ⟨hD1, hD2⟩ (by rw [if_pos h3, if_pos h3, HS0.out]; exact HPb.out.symm) HE.out.symm (by rw [if_neg (fun h => c1a h.1)]) (by rw [if_neg (fun h => c2b h.2)])
                    rw [if_neg (fun h => c3b h.2)] at hfin
                    rw [hfin]
                    exact Sk.out
              · have c1x : (j : Int) < (m : Int) := by omega
                have c1y : ¬ (m : Int) < (E : Int) := by omega
                rcases (show (a < j ∧ j < D) ∨ (¬ a < j) ∨ (a < j ∧ ¬ j < D) by omega) with ⟨c2a, c2b⟩ | c2a | ⟨c2a, c2b⟩
                · have c2x : (a : Int) < (j : Int) := by omega
                  have c2y : (j : Int) < (D : Int) := by omega
                  have hc30 := IH.out a j D (d) wr (by omega) Sk.out hn c2a c2b (by omega)
                  have hz2 : (symMerge lt (d) a j D).size = n := (symMerge_perm lt _ a j D (d) (Nat.le_refl _) c2a c2b (by rw [hn]; omega)).1.trans hn
                  go_wp2_with fail
                  refine hc30.mono ?_
                  rintro e w3 ⟨rfl, S3q⟩
                  have S3 : Aside _ := S3q
                  clear hc30 S3q
                  clear mL mS
                  have mL := F.methL _ w3 S3.out
                  have mS := F.methS _ w3 S3.out
                  rcases (show (D < E ∧ E < b) ∨ (¬ D < E) ∨ (D < E ∧ ¬ E < b) by omega) with ⟨c3a, c3b⟩ | c3a | ⟨c3a, c3b⟩
                  · have c3x : (D : Int) < (E : Int) := by omega
                    have c3y : (E : Int) < (b : Int) := by omega
                    have hc31 := IH.out D E b (symMerge lt (d) a j D) w3 (by omega) S3.out hz2 c3a c3b hb
                    go_wp2_with fail
                    refine hc31.mono ?_
                    rintro e w4 ⟨rfl, S4q⟩
                    have S4 : Aside _ := S4q
                    clear hc31 S4q
                    clear mL mS
                    have mL := F.methL _ w4 S4.out
                    have mS := F.methS _ w4 S4.out
                    go_wp2_with fail
                    go_end0
                    refine ⟨rfl, ?_⟩
                    have hfin := symMerge_open lt d a m b h1 h2 D j E (d) (symMerge lt (d) a j D) HD.out ⟨hD1, hD2⟩ (by rw [if_pos h3, if_pos h3, HS0.out]; exact HPb.out.symm) HE.out.symm (by rw [if_neg (fun h => c1b h.2)]) (by rw [if_pos ⟨c2a, c2b⟩])
                    rw [if_pos ⟨c3a, c3b⟩] at hfin
                    rw [hfin]
                    exact S4.out
                  · have c3x : ¬ (D : Int) < (E : Int) := by omega
                    go_wp2_with fail
                    go_end0
                    refine ⟨rfl, ?_⟩
                    have hfin := symMerge_open lt d a m b h1 h2 D j E (d) (symMerge lt (d) a j D) HD.out ⟨hD1, hD2⟩ (by rw [if_pos h3, if_pos h3, HS0.out]; exact HPb.out.symm) HE.out.symm (by rw [if_neg (fun h => c1b h.2)]) (by rw [if_pos ⟨c2a, c2b⟩])
                    rw [if_neg (fun h => c3a h.1)] at hfin
                    rw [hfin]
                    exact S3.out
                  · have c3x : (D : Int) < (E : Int) := by omega
                    have c3y : ¬ (E : Int) < (b : Int) := by omega
                    go_wp2_with fail
                    go_end0
                    refine ⟨rfl, ?_⟩
                    have hfin := symMerge_open lt d a m b h1 h2 D j E (d) (symMerge lt (d) a j D) HD.out ⟨hD1, hD2⟩ (by rw [if_pos h3, if_pos h3, HS0.out]; exact HPb.out.symm) HE.out.symm (by rw [if_neg (fun h => c1b h.2)]) (by rw [if_pos ⟨c2a, c2b⟩])
                    rw [if_neg (fun h => c3b h.2)] at hfin
                    rw [hfin]
                    exact S3.out
                · have c2x : ¬ (a : Int) < (j : Int) := by omega
                  rcases (show (D < E ∧ E < b) ∨ (¬ D < E) ∨ (D < E ∧ ¬ E < b) by omega) with ⟨c3a, c3b⟩ | c3a | ⟨c3a, c3b⟩
                  · have c3x : (D : Int) < (E : Int) := by omega
                    have c3y : (E : Int) < (b : Int) := by omega
                    have hc31 := IH.out D E b (d) wr (by omega) Sk.out hn c3a c3b hb
                    go_wp2_with fail
                    refine hc31.mono ?_
                    rintro e w4 ⟨rfl, S4q⟩
                    have S4 : Aside _ := S4q
                    clear hc31 S4q
                    clear mL mS
                    have mL := F.methL _ w4 S4.out
                    have mS := F.methS _ w4 S4.out
                    go_wp2_with fail
                    go_end0
                    refine ⟨rfl, ?_⟩
                    have hfin := symMerge_open lt d a m b h1 h2 D j E (d) (d) HD.out ⟨hD1, hD2⟩ (by rw [if_pos h3, if_pos h3, HS0.out]; exact HPb.out.symm) HE.out.symm (by rw [if_neg (fun h => c1b h.2)]) (by rw [if_neg (fun h => c2a h.1)])
                    rw [if_pos ⟨c3a, c3b⟩] at hfin
                    rw [hfin]
                    exact S4.out
                  · have c3x : ¬ (D : Int) < (E : Int) := by omega
                    go_wp2_with fail
                    go_end0
                    refine ⟨rfl, ?_⟩
                    have hfin := symMerge_open lt d a m b h1 h2 D j E (d) (d) HD.out ⟨hD1, hD2⟩ (by rw [if_pos h3, if_pos h3, HS0.out]; exact HPb.out.symm) HE.out.symm (by rw [if_neg (fun h => c1b h.2)]) (by rw [if_neg (fun h => c2a h.1)])
                    rw [if_neg (fun h => c3a h.1)] at hfin
                    rw [hfin]
                    exact Sk.out
                  · have c3x : (D : Int) < (E : Int) := by omega
                    have c3y : ¬ (E : Int) < (b : Int) := by omega
                    go_wp2_with fail
                    go_end0
                    refine ⟨rfl, ?_⟩
                    have hfin := symMerge_open lt d a m b h1 h2 D j E (d) (d) HD.out ⟨hD1, hD2⟩ (by rw [if_pos h3, if_pos h3, HS0.out]; exact HPb.out.symm) HE.out.symm (by rw [if_neg (fun h => c1b h.2)]) (by rw [if_neg (fun h => c2a h.1)])
                    rw [if_neg (fun h => c3b h.2)] at hfin
                    rw [hfin]
                    exact Sk.out
                · have c2x : (a : Int) < (j : Int) := by omega
                  have c2y : ¬ (j : Int) < (D : Int) := by omega
                  rcases (show (D < E ∧ E < b) ∨ (¬ D < E) ∨ (D < E ∧ ¬ E < b) by omega) with ⟨c3a, c3b⟩ | c3a | ⟨c3a, c3b⟩
                  · have c3x : (D : Int) < (E : Int) := by omega
                    have c3y : (E : Int) < (b : Int) := by omega
                    have hc31 := IH.out D E b (d) wr (by omega) Sk.out hn c3a c3b hb
                    go_wp2_with fail
                    refine hc31.mono ?_
                    rintro e w4 ⟨rfl, S4q⟩
                    have S4 : Aside _ := S4q
                    clear hc31 S4q
                    clear mL mS
                    have mL := F.methL _ w4 S4.out
                    have mS := F.methS _ w4 S4.out
                    go_wp2_with fail
                    go_end0
                    refine ⟨rfl, ?_⟩
                    have hfin := symMerge_open lt d a m b h1 h2 D j E (d) (d) HD.out ⟨hD1, hD2⟩ (by rw [if_pos h3, if_pos h3, HS0.out]; exact HPb.out.symm) HE.out.symm (by rw [if_neg (fun h => c1b h.2)]) (by rw [if_neg (fun h => c2b h.2)])
                    rw [if_pos ⟨c3a, c3b⟩] at hfin
                    rw [hfin]
                    exact S4.out
                  · have c3x : ¬ (D : Int) < (E : Int) := by omega
                    go_wp2_with fail
                    go_end0
                    refine ⟨rfl, ?_⟩
                    have hfin := symMerge_open lt d a m b h1 h2 D j E (d) (d) HD.out ⟨hD1, hD2⟩ (by rw [if_pos h3, if_pos h3, HS0.out]; exact HPb.out.symm) HE.out.symm (by rw [if_neg (fun h => c1b h.2)]) (by rw [if_neg (fun h => c2b h.2)])
                    rw [if_neg (fun h => c3a h.1)] at hfin
                    rw [hfin]
                    exact Sk.out
                  · have c3x : (D : Int) < (E : Int) := by omega
                    have c3y : ¬ (E : Int) < (b : Int) := by omega
                    go_wp2_with fail
                    go_end0
                    refine ⟨rfl, ?_⟩
                    have hfin := symMerge_open lt d a m b h1 h2 D j E (d) (d) HD.out ⟨hD1, hD2⟩ (by rw [if_pos h3, if_pos h3, HS0.out]; exact HPb.out.symm) HE.out.symm (by rw [if_neg (fun h => c1b h.2)]) (by rw [if_neg (fun h => c2b h.2)])
                    rw [if_neg (fun h => c3b h.2)] at hfin
                    rw [hfin]
                    exact Sk.out
        · have h3z : ¬ (D : Int) < (m : Int) := by omega
          go_enter Try.func113, Try.ntmps113
          go_wp2_with fail
          go_loopg [18, 19] (m - a) (fun g vi vj wr => ∃ i j : Nat, vi = .int .i64 i ∧ vj = .int .i64 j ∧ a ≤ i ∧ i ≤ j ∧ j ≤ m ∧ j - i ≤ g ∧ Aside (St2 w0 blk off d wr) ∧ Hid (bsearch (fun c => !lt d[D + m - 1 - c]! d[c]!) i j = bsearch (fun c => !lt d[D + m - 1 - c]! d[c]!) (a) (m)))
          case atStart => exact ⟨a, m, by go_num, by go_num, Nat.le_refl _, by omega, Nat.le_refl _, Nat.le_refl _, S0, rfl⟩
          case round =>
            obtain ⟨i, j, rfl, rfl, hli, hij, hjh, hg, Sk, HP⟩ := hrel
            by_cases hlt : i < j
            · have hltz : (i : Int) < (j : Int) := by omega
              obtain ⟨M, hM⟩ : ∃ M, M = (i + j) / 2 := ⟨_, rfl⟩
              have hMz : ((i : Int) + (j : Int)) / 2 = (M : Int) := by omega
              have hM1 : i ≤ M := by omega
              have hM2 : M < j := by omega
              have HM : Aside (M = (i + j) / 2) := hM
              clear hM
              obtain ⟨PC, hPC⟩ : ∃ PC, PC = D + m - 1 - M := ⟨_, rfl⟩
              have hPCz : (D : Int) + (m : Int) - 1 - (M : Int) = (PC : Int) := by omega
              have hPC1 : PC < n := by omega
              have HPC : Aside (PC = D + m - 1 - M) := hPC
              clear hPC
              have mL := F.methL _ wr Sk.out
              have mS := F.methS _ wr Sk.out
              have hl := F.less d wr (PC) (M) (by omega) Sk.out (by omega) (by omega)
              obtain ⟨c, hc⟩ : ∃ c, c = lt d[PC]! d[M]! := ⟨_, rfl⟩
              rw [← hc] at hl
              have HV : Aside (lt d[PC]! d[M]! = c) := hc.symm
              clear hc
              cases c with
              | true =>
                have HV' : Aside _ := HV
                clear HV
                go_wp2_with fail
                refine hl.mono ?_
                rintro e w' ⟨rfl, q, os, rfl⟩
                have S2 : Aside _ := Sk.out.grow q os
                clear mL mS hl
                generalize grow (wr.drewN q) os = w2 at S2 ⊢
                clear q os
                have mL := F.methL _ w2 S2.out
                have mS := F.methS _ w2 S2.out
                go_wp2_with fail
                go_roundg (M - i)
                case measure => omega
                case rel => exact ⟨i, M, rfl, rfl, hli, hM1, by omega, Nat.le_refl _, S2, by show _ = _; rw [← HP.out]; conv => rhs; rw [bsearch, dif_pos hlt, ← HM.out, if_neg (by show ¬ (!lt d[D + m - 1 - M]! d[M]!) = true; rw [← HPC.out]; rw [HV'.out]; exact Bool.false_ne_true)]⟩
              | false =>
                have HV' : Aside _ := HV
                clear HV
                go_wp2_with fail
                refine hl.mono ?_
                rintro e w' ⟨rfl, q, os, rfl⟩
                have S2 : Aside _ := Sk.out.grow q os
                clear mL mS hl
                generalize grow (wr.drewN q) os = w2 at S2 ⊢
                clear q os
                have mL := F.methL _ w2 S2.out
                have mS := F.methS _ w2 S2.out
                go_wp2_with fail
                go_roundg (j - (M + 1))
                case measure => omega
                case rel => exact ⟨M + 1, j, by go_num, rfl, by omega, by omega, hjh, Nat.le_refl _, S2, by show _ = _; rw [← HP.out]; conv => rhs; rw [bsearch, dif_pos hlt, ← HM.out, if_pos (by show (!lt d[D + m - 1 - M]! d[M]!) = true; rw [← HPC.out]; rw [HV'.out]; rfl)]⟩
            · have hltz : ¬ (i : Int) < (j : Int) := by omega
              obtain rfl : j = i := by omega
              have hPb : bsearch (fun c => !lt d[D + m - 1 - c]! d[c]!) (a) (m) = j := by rw [← HP.out, bsearch, dif_neg (by omega)]
              have HPb : Aside _ := hPb
              clear hPb HP
              obtain ⟨E, hE⟩ : ∃ E, E = D + m - j := ⟨_, rfl⟩
              have hEz : (D : Int) + (m : Int) - (j : Int) = (E : Int) := by omega
              have hEb : E ≤ b := by omega
              have HE : Aside (D + m - j = E) := hE.symm
              clear hE
              have mL := F.methL _ wr Sk.out
              have mS := F.methS _ wr Sk.out
              rcases (show (j < m ∧ m < E) ∨ (¬ j < m) ∨ (j < m ∧ ¬ m < E) by omega) with ⟨c1a, c1b⟩ | c1a | ⟨c1a, c1b⟩
              · have c1x : (j : Int) < (m : Int) := by omega
                have c1y : (m : Int) < (E : Int) := by omega
                have hc8 := rotate_f T rv lt gl gs rl rs w0 blk off n F d wr Sk.out hn hsz j m E c1a c1b (by omega)
                have hz1 : (rotate d j m E).size = n := (rotate_spec d j m E c1a c1b (by omega)).2.1.trans hn
                go_wp2_with fail
                refine hc8.mono ?_
                rintro e w2 ⟨rfl, S2q⟩
                have S2 : Aside _ := S2q
                clear hc8 S2q
                clear mL mS
                have mL := F.methL _ w2 S2.out
                have mS := F.methS _ w2 S2.out
                rcases (show (a < j ∧ j < D) ∨ (¬ a < j) ∨ (a < j ∧ ¬ j < D) by omega) with ⟨c2a, c2b⟩ | c2a | ⟨c2a, c2b⟩
                · have c2x : (a : Int) < (j : Int) := by omega
                  have c2y : (j : Int) < (D : Int) := by omega
                  have hc30 := IH.out a j D (rotate d j m E) w2 (by omega) S2.out hz1 c2a c2b (by omega)
                  have hz2 : (symMerge lt (rotate d j m E) a j D).size = n := (symMerge_perm lt _ a j D (rotate d j m E) (Nat.le_refl _) c2a c2b (by rw [hz1]; omega)).1.trans hz1
                  go_wp2_with fail
                  refine hc30.mono ?_
                  rintro e w3 ⟨rfl, S3q⟩
                  have S3 : Aside _ := S3q
                  clear hc30 S3q
                  clear mL mS
                  have mL := F.methL _ w3 S3.out
                  have mS := F.methS _ w3 S3.out
                  rcases (show (D < E ∧ E < b) ∨ (¬ D < E) ∨ (D < E ∧ ¬ E < b) by omega) with ⟨c3a, c3b⟩ | c3a | ⟨c3a, c3b⟩
                  · have c3x : (D : Int) < (E : Int) := by omega
                    have c3y : (E : Int) < (b : Int) := by omega
                    have hc31 := IH.out D E b (symMerge lt (rotate d j m E) a j D) w3 (by omega) S3.out hz2 c3a c3b hb
                    go_wp2_with fail
                    refine hc31.mono ?_
                    rintro e w4 ⟨rfl, S4q⟩
                    have S4 : Aside _ := S4q
                    clear hc31 S4q
                    clear mL mS
                    have mL := F.methL _ w4 S4.out
                    have mS := F.methS _ w4 S4.out
                    go_wp2_with fail
                    go_end0
                    refine ⟨rfl, ?_⟩
                    have hfin := symMerge_open lt d a m b h1 h2 D j E (rotate d j m E) (symMerge lt (rotate d j m E) a j D) HD.out ⟨hD1, hD2⟩ (by rw [if_neg h3, if_neg h3]; exact HPb.out.symm) HE.out.symm (by rw [if_pos ⟨c1a, c1b⟩]) (by rw [if_pos ⟨c2a, c2b⟩])
                    rw [if_pos ⟨c3a, c3b⟩] at hfin
                    rw [hfin]
                    exact S4.out
                  · have c3x : ¬ (D : Int) < (E : Int) := by omega
                    go_wp2_with fail
                    go_end0
                    refine ⟨rfl, ?_⟩
                    have hfin := symMerge_open lt d a m b h1 h2 D j E (rotate d j m E) (symMerge lt (rotate d j m E) a j D) HD.out ⟨hD1, hD2⟩ (by rw [if_neg h3, if_neg h3]; exact HPb.out.symm) HE.out.symm (by rw [if_pos ⟨c1a, c1b⟩]) (by rw [if_pos ⟨c2a, c2b⟩])
                    rw [if_neg (fun h => c3a h.1)] at hfin
                    rw [hfin]
                    exact S3.out
                  · have c3x : (D : Int) < (E : Int) := by omega
                    have c3y : ¬ (E : Int) < (b : Int) := by omega
                    go_wp2_with fail
                    go_end0
                    refine ⟨rfl, ?_⟩
                    have hfin := symMerge_open lt d a m b h1 h2 D j E (rotate d j m E) (symMerge lt (rotate d j m E) a j D) HD.out ⟨hD1, hD2⟩ (by rw [if_neg h3, if_neg h3]; exact HPb.out.symm) HE.out.symm (by rw [if_pos ⟨c1a, c1b⟩]) (by rw [if_pos ⟨c2a, c2b⟩])
                    rw [if_neg (fun h => c3b h.2)] at hfin
                    rw [hfin]
                    exact S3.out
                · have c2x : ¬ (a : Int) < (j : Int) := by omega
                  rcases (show (D < E ∧ E < b) ∨ (¬ D < E) ∨ (D < E ∧ ¬ E < b) by omega) with ⟨c3a, c3b⟩ | c3a | ⟨c3a, c3b⟩
                  · have c3x : (D : Int) < (E : Int) := by omega
                    have c3y : (E : Int) < (b : Int) := by omega
                    have hc31 := IH.out D E b (rotate d j m E) w2 (by omega) S2.out hz1 c3a c3b hb
                    go_wp2_with fail
                    refine hc31.mono ?_
                    rintro e w4 ⟨rfl, S4q⟩
                    have S4 : Aside _ := S4q
                    clear hc31 S4q
                    clear mL mS
                    have mL := F.methL _ w4 S4.out
                    have mS := F.methS _ w4 S4.out
                    go_wp2_with fail
                    go_end0
                    refine ⟨rfl, ?_⟩
                    have hfin := symMerge_open lt d a m b h1 h2 D j E (rotate d j m E) (rotate d j m E) HD.out ⟨hD1, hD2⟩ (by rw [if_neg h3, if_neg h3]; exact HPb.out.symm) HE.out.symm (by rw [if_pos ⟨c1a, c1b⟩]) (by rw [if_neg (fun h => c2a h.1)])
                    rw [if_pos ⟨c3a, c3b⟩] at hfin
                    rw [hfin]
                    exact S4.out
                  · have c3x : ¬ (D : Int) < (E : Int) := by omega
                    go_wp2_with fail
                    go_end0
                    refine ⟨rfl, ?_⟩
                    have hfin := symMerge_open lt d a m b h1 h2 D j E (rotate d j m E) (rotate d j m E) HD.out ⟨hD1, hD2⟩ (by rw [if_neg h3, if_neg h3]; exact HPb.out.symm) HE.out.symm (by rw [if_pos ⟨c1a, c1b⟩]) (by rw [if_neg (fun h => c2a h.1)])
                    rw [if_neg (fun h => c3a h.1)] at hfin
                    rw [hfin]
                    exact S2.out
                  · have c3x : (D : Int) < (E : Int) := by omega
                    have c3y : ¬ (E : Int) < (b : Int) := by omega
                    go_wp2_with fail
                    go_end0
                    refine ⟨rfl, ?_⟩
                    have hfin := symMerge_open lt d a m b h1 h2 D j E (rotate d j m E) (rotate d j m E) HD.out ⟨hD1, hD2⟩ (by rw [if_neg h3, if_neg h3]; exact HPb.out.symm) HE.out.symm (by rw [if_pos ⟨c1a, c1b⟩]) (by rw [if_neg (fun h => c2a h.1)])
                    rw [if_neg (fun h => c3b h.2)] at hfin
                    rw [hfin]
                    exact S2.out
                · have c2x : (a : Int) < (j : Int) := by omega
                  have c2y : ¬ (j : Int) < (D : Int) := by omega
                  rcases (show (D < E ∧ E < b) ∨ (¬ D < E) ∨ (D < E ∧ ¬ E < b) by omega) with ⟨c3a, c3b⟩ | c3a | ⟨c3a, c3b⟩
                  · have c3x : (D : Int) < (E : Int) := by omega
                    have c3y : (E : Int) < (b : Int) := by omega
                    have hc31 := IH.out D E b (rotate d j m E) w2 (by omega) S2.out hz1 c3a c3b hb
                    go_wp2_with fail
                    refine hc31.mono ?_
                    rintro e w4 ⟨rfl, S4q⟩
                    have S4 : Aside _ := S4q
                    clear hc31 S4q
                    clear mL mS
                    have mL := F.methL _ w4 S4.out
                    have mS := F.methS _ w4 S4.out
                    go_wp2_with fail
                    go_end0
                    refine ⟨rfl, ?_⟩
                    have hfin := symMerge_open lt d a m b h1 h2 D j E (rotate d j m E) (rotate d j m E) HD.out ⟨hD1, hD2⟩ (by rw [if_neg h3, if_neg h3]; exact HPb.out.symm) HE.out.symm (by rw [if_pos ⟨c1a, c1b⟩]) (by rw [if_neg (fun h => c2b h.2)])
                    rw [if_pos ⟨c3a, c3b⟩] at hfin
                    rw [hfin]
                    exact S4.out
                  · have c3x : ¬ (D : Int) < (E : Int) := by omega
                    go_wp2_with fail
                    go_end0
                    refine ⟨rfl, ?_⟩
                    have hfin := symMerge_open lt d a m b h1 h2 D j E (rotate d j m E) (rotate d j m E) HD.out ⟨hD1, hD2⟩ (by rw [if_neg h3, if_neg h3]; exact HPb.out.symm) HE.out.symm (by rw [if_pos ⟨c1a, c1b⟩]) (by rw [if_neg (fun h => c2b h.2)])
                    rw [if_neg (fun h => c3a h.1)] at hfin
                    rw [hfin]
                    exact S2.out
                  · have c3x : (D : Int) < (E : Int) := by omega
                    have c3y : ¬ (E : Int) < (b : Int) := by omega
                    go_wp2_with fail
                    go_end0
                    refine ⟨rfl, ?_⟩
                    have hfin := symMerge_open lt d a m b h1 h2 D j E (rotate d j m E) (rotate d j m E) HD.out ⟨hD1, hD2⟩ (by rw [if_neg h3, if_neg h3]; exact HPb.out.symm) HE.out.symm (by rw [if_pos ⟨c1a, c1b⟩]) (by rw [if_neg (fun h => c2b h.2)])
                    rw [if_neg (fun h => c3b h.2)] at hfin
                    rw [hfin]
                    exact S2.out
              · have c1x : ¬ (j : Int) < (m : Int) := by omega
                rcases (show (a < j ∧ j < D) ∨ (¬ a < j) ∨ (a < j ∧ ¬ j < D) by omega) with ⟨c2a, c2b⟩ | c2a | ⟨c2a, c2b⟩
                · have c2x : (a : Int) < (j : Int) := by omega
                  have c2y : (j : Int) < (D : Int) := by omega
                  have hc30 := IH.out a j D (d) wr (by omega) Sk.out hn c2a c2b (by omega)
                  have hz2 : (symMerge lt (d) a j D).size = n := (symMerge_perm lt _ a j D (d) (Nat.le_refl _) c2a c2b (by rw [hn]; omega)).1.trans hn
                  go_wp2_with fail
                  refine hc30.mono ?_
                  rintro e w3 ⟨rfl, S3q⟩
                  have S3 : Aside _ := S3q
                  clear hc30 S3q
                  clear mL mS
                  have mL := F.methL _ w3 S3.out
                  have mS := F.methS _ w3 S3.out
                  rcases (show (D < E ∧ E < b) ∨ (¬ D < E) ∨ (D < E ∧ ¬ E < b) by omega) with ⟨c3a, c3b⟩ | c3a | ⟨c3a, c3b⟩
                  · have c3x : (D : Int) < (E : Int) := by omega
                    have c3y : (E : Int) < (b : Int) := by omega
                    have hc31 := IH.out D E b (symMerge lt (d) a j D) w3 (by omega) S3.out hz2 c3a c3b hb
                    go_wp2_with fail
                    refine hc31.mono ?_
                    rintro e w4 ⟨rfl, S4q⟩
                    have S4 : Aside _ := S4q
                    clear hc31 S4q
                    clear mL mS
                    have mL := F.methL _ w4 S4.out
                    have mS := F.methS _ w4 S4.out
                    go_wp2_with fail
                    go_end0
                    refine ⟨rfl, ?_⟩
                    have hfin := symMerge_open lt d a m b h1 h2 D j E (d) (symMerge lt (d) a j D) HD.out ⟨hD1, hD2⟩ (by rw [if_neg h3, if_neg h3]; exact HPb.out.symm) HE.out.symm (by rw [if_neg (fun h => c1a h.1)]) (by rw [if_pos ⟨c2a, c2b⟩])
                    rw [if_pos ⟨c3a, c3b⟩] at hfin
                    rw [hfin]
                    exact S4.out
                  · have c3x : ¬ (D : Int) < (E : Int) := by omega
                    go_wp2_with fail
                    go_end0
                    refine ⟨rfl, ?_⟩
                    have hfin := symMerge_open lt d a m b h1 h2 D j E (d) (symMerge lt (d) a j D) HD.out ⟨hD1, hD2⟩ (by rw [if_neg h3, if_neg h3]; exact HPb.out.symm) HE.out.symm (by rw [if_neg (fun h => c1a h.1)]) (by rw [if_pos ⟨c2a, c2b⟩])
                    rw [if_neg (fun h => c3a h.1)] at hfin
                    rw [hfin]
                    exact S3.out
                  · have c3x : (D : Int) < (E : Int) := by omega
                    have c3y : ¬ (E : Int) < (b : Int) := by omega
                    go_wp2_with fail
                    go_end0
                    refine ⟨rfl, ?_⟩
                    have hfin := symMerge_open lt d a m b h1 h2 D j E (d) (symMerge lt (d) a j D) HD.out ⟨hD1, hD2⟩ (by rw [if_neg h3, if_neg h3]; exact HPb.out.symm) HE.out.symm (by rw [if_neg (fun h => c1a h.1)]) (by rw [if_pos ⟨c2a, c2b⟩])
                    rw [if_neg (fun h => c3b h.2)] at hfin
                    rw [hfin]
                    exact S3.out
                · have c2x : ¬ (a : Int) < (j : Int) := by omega
                  rcases (show (D < E ∧ E < b) ∨ (¬ D < E) ∨ (D < E ∧ ¬ E < b) by omega) with ⟨c3a, c3b⟩ | c3a | ⟨c3a, c3b⟩
                  · have c3x : (D : Int) < (E : Int) := by omega
                    have c3y : (E : Int) < (b : Int) := by omega
                    have hc31 := IH.out D E b (d) wr (by omega) Sk.out hn c3a c3b hb
                    go_wp2_with fail
                    refine hc31.mono ?_
                    rintro e w4 ⟨rfl, S4q⟩
                    have S4 : Aside _ := S4q
                    clear hc31 S4q
                    clear mL mS
                    have mL := F.methL _ w4 S4.out
                    have mS := F.methS _ w4 S4.out
                    go_wp2_with fail
                    go_end0
                    refine ⟨rfl, ?_⟩
                    have hfin := symMerge_open lt d a m b h1 h2 D j E (d) (d) HD.out ⟨hD1, hD2⟩ (by rw [if_neg h3, if_neg h3]; exact HPb.out.symm) HE.out.symm (by rw [if_neg (fun h => c1a h.1)]) (by rw [if_neg (fun h => c2a h.1)])
                    rw [if_pos ⟨c3a, c3b⟩] at hfin
                    rw [hfin]
                    exact S4.out
                  · have c3x : ¬ (D : Int) < (E : Int) := by omega
                    go_wp2_with fail
                    go_end0
                    refine ⟨rfl, ?_⟩
                    have hfin := symMerge_open lt d a m b h1 h2 D j E (d) (d) HD.out ⟨hD1, hD2⟩ (by rw [if_neg h3, if_neg h3]; exact HPb.out.symm) HE.out.symm (by rw [if_neg (fun h => c1a h.1)]) (by rw [if_neg (fun h => c2a h.1)])
                    rw [if_neg (fun h => c3a h.1)] at hfin
                    rw [hfin]
                    exact Sk.out
                  · have c3x : (D : Int) < (E : Int) := by omega
                    have c3y : ¬ (E : Int) < (b : Int) := by omega
                    go_wp2_with fail
                    go_end0
                    refine ⟨rfl, ?_⟩
                    have hfin := symMerge_open lt d a m b h1 h2 D j E (d) (d) HD.out ⟨hD1, hD2⟩ (by rw [if_neg h3, if_neg h3]; exact HPb.out.symm) HE.out.symm (by rw [if_neg (fun h => c1a h.1)]) (by rw [if_neg (fun h => c2a h.1)])
                    rw [if_neg (fun h => c3b h.2)] at hfin
                    rw [hfin]
                    exact Sk.out
                · have c2x : (a : Int) < (j : Int) := by omega
                  have c2y : ¬ (j : Int) < (D : Int) := by omega
                  rcases (show (D < E ∧ E < b) ∨ (¬ D < E) ∨ (D < E ∧ ¬ E < b) by omega) with ⟨c3a, c3b⟩ | c3a | ⟨c3a, c3b⟩
                  · have c3x : (D : Int) < (E : Int) := by omega
                    have c3y : (E : Int) < (b : Int) := by omega
                    have hc31 := IH.out D E b (d) wr (by omega) Sk.out hn c3a c3b hb
                    go_wp2_with fail
                    refine hc31.mono ?_
                    rintro e w4 ⟨rfl, S4q⟩
                    have S4 : Aside _ := S4q
                    clear hc31 S4q
                    clear mL mS
                    have mL := F.methL _ w4 S4.out
                    have mS := F.methS _ w4 S4.out
                    go_wp2_with fail
                    go_end0
                    refine ⟨rfl, ?_⟩
                    have hfin := symMerge_open lt d a m b h1 h2 D j E (d) (d) HD.out ⟨hD1, hD2⟩ (by rw [if_neg h3, if_neg h3]; exact HPb.out.symm) HE.out.symm (by rw [if_neg (fun h => c1a h.1)]) (by rw [if_neg (fun h => c2b h.2)])
                    rw [if_pos ⟨c3a, c3b⟩] at hfin
                    rw [hfin]
                    exact S4.out
                  · have c3x : ¬ (D : Int) < (E : Int) := by omega
                    go_wp2_with fail
                    go_end0
                    refine ⟨rfl, ?_⟩
                    have hfin := symMerge_open lt d a m b h1 h2 D j E (d) (d) HD.out ⟨hD1, hD2⟩ (by rw [if_neg h3, if_neg h3]; exact HPb.out.symm) HE.out.symm (by rw [if_neg (fun h => c1a h.1)]) (by rw [if_neg (fun h => c2b h.2)])
                    rw [if_neg (fun h => c3a h.1)] at hfin
                    rw [hfin]
                    exact Sk.out
                  · have c3x : (D : Int) < (E : Int) := by omega
                    have c3y : ¬ (E : Int) < (b : Int) := by omega
                    go_wp2_with fail
                    go_end0
                    refine ⟨rfl, ?_⟩
                    have hfin := symMerge_open lt d a m b h1 h2 D j E (d) (d) HD.out ⟨hD1, hD2⟩ (by rw [if_neg h3, if_neg h3]; exact HPb.out.symm) HE.out.symm (by rw [if_neg (fun h => c1a h.1)]) (by rw [if_neg (fun h => c2b h.2)])
                    rw [if_neg (fun h => c3b h.2)] at hfin
                    rw [hfin]
                    exact Sk.out
              · have c1x : (j : Int) < (m : Int) := by omega
                have c1y : ¬ (m : Int) < (E : Int) := by omega
                rcases (show (a < j ∧ j < D) ∨ (¬ a < j) ∨ (a < j ∧ ¬ j < D) by omega) with ⟨c2a, c2b⟩ | c2a | ⟨c2a, c2b⟩
                · have c2x : (a : Int) < (j : Int) := by omega
                  have c2y : (j : Int) < (D : Int) := by omega
                  have hc30 := IH.out a j D (d) wr (by omega) Sk.out hn c2a c2b (by omega)
                  have hz2 : (symMerge lt (d) a j D).size = n := (symMerge_perm lt _ a j D (d) (Nat.le_refl _) c2a c2b (by rw [hn]; omega)).1.trans hn
                  go_wp2_with fail
                  refine hc30.mono ?_
                  rintro e w3 ⟨rfl, S3q⟩
                  have S3 : Aside _ := S3q
                  clear hc30 S3q
                  clear mL mS
                  have mL := F.methL _ w3 S3.out
                  have mS := F.methS _ w3 S3.out
                  rcases (show (D < E ∧ E < b) ∨ (¬ D < E) ∨ (D < E ∧ ¬ E < b) by omega) with ⟨c3a, c3b⟩ | c3a | ⟨c3a, c3b⟩
                  · have c3x : (D : Int) < (E : Int) := by omega
                    have c3y : (E : Int) < (b : Int) := by omega
                    have hc31 := IH.out D E b (symMerge lt (d) a j D) w3 (by omega) S3.out hz2 c3a c3b hb
                    go_wp2_with fail
                    refine hc31.mono ?_
                    rintro e w4 ⟨rfl, S4q⟩
                    have S4 : Aside _ := S4q
                    clear hc31 S4q
                    clear mL mS
                    have mL := F.methL _ w4 S4.out
                    have mS := F.methS _ w4 S4.out
                    go_wp2_with fail
                    go_end0
                    refine ⟨rfl, ?_⟩
                    have hfin := symMerge_open lt d a m b h1 h2 D j E (d) (symMerge lt (d) a j D) HD.out ⟨hD1, hD2⟩ (by rw [if_neg h3, if_neg h3]; exact HPb.out.symm) HE.out.symm (by rw [if_neg (fun h => c1b h.2)]) (by rw [if_pos ⟨c2a, c2b⟩])
                    rw [if_pos ⟨c3a, c3b⟩] at hfin
                    rw [hfin]
                    exact S4.out
                  · have c3x : ¬ (D : Int) < (E : Int) := by omega
                    go_wp2_with fail
                    go_end0
                    refine ⟨rfl, ?_⟩
                    have hfin := symMerge_open lt d a m b h1 h2 D j E (d) (symMerge lt (d) a j D) HD.out ⟨hD1, hD2⟩ (by rw [if_neg h3, if_neg h3]; exact HPb.out.symm) HE.out.symm (by rw [if_neg (fun h => c1b h.2)]) (by rw [if_pos ⟨c2a, c2b⟩])
                    rw [if_neg (fun h => c3a h.1)] at hfin
                    rw [hfin]
                    exact S3.out
                  · have c3x : (D : Int) < (E : Int) := by omega
                    have c3y : ¬ (E : Int) < (b : Int) := by omega
                    go_wp2_with fail
                    go_end0
                    refine ⟨rfl, ?_⟩
                    have hfin := symMerge_open lt d a m b h1 h2 D j E (d) (symMerge lt (d) a j D) HD.out ⟨hD1, hD2⟩ (by rw [if_neg h3, if_neg h3]; exact HPb.out.symm) HE.out.symm (by rw [if_neg (fun h => c1b h.2)]) (by rw [if_pos ⟨c2a, c2b⟩])
                    rw [if_neg (fun h => c3b h.2)] at hfin
                    rw [hfin]
                    exact S3.out
                · have c2x : ¬ (a : Int) < (j : Int) := by omega
                  rcases (show (D < E ∧ E < b) ∨ (¬ D < E) ∨ (D < E ∧ ¬ E < b) by omega) with ⟨c3a, c3b⟩ | c3a | ⟨c3a, c3b⟩
                  · have c3x : (D : Int) < (E : Int) := by omega
                    have c3y : (E : Int) < (b : Int) := by omega
                    have hc31 := IH.out D E b (d) wr (by omega) Sk.out hn c3a c3b hb
                    go_wp2_with fail
                    refine hc31.mono ?_
                    rintro e w4 ⟨rfl, S4q⟩
                    have S4 : Aside _ := S4q
                    clear hc31 S4q
                    clear mL mS
                    have mL := F.methL _ w4 S4.out
                    have mS := F.methS _ w4 S4.out
                    go_wp2_with fail
                    go_end0
                    refine ⟨rfl, ?_⟩
                    have hfin := symMerge_open lt d a m b h1 h2 D j E (d) (d) HD.out ⟨hD1, hD2⟩ (by rw [if_neg h3, if_neg h3]; exact HPb.out.symm) HE.out.symm (by rw [if_neg (fun h => c1b h.2)]) (by rw [if_neg (fun h => c2a h.1)])
                    rw [if_pos ⟨c3a, c3b⟩] at hfin
                    rw [hfin]
                    exact S4.out
                  · have c3x : ¬ (D : Int) < (E : Int) := by omega
                    go_wp2_with fail
                    go_end0
                    refine ⟨rfl, ?_⟩
                    have hfin := symMerge_open lt d a m b h1 h2 D j E (d) (d) HD.out ⟨hD1, hD2⟩ (by rw [if_neg h3, if_neg h3]; exact HPb.out.symm) HE.out.symm (by rw [if_neg (fun h => c1b h.2)]) (by rw [if_neg (fun h => c2a h.1)])
                    rw [if_neg (fun h => c3a h.1)] at hfin
                    rw [hfin]
                    exact Sk.out
                  · have c3x : (D : Int) < (E : Int) := by omega
                    have c3y : ¬ (E : Int) < (b : Int) := by omega
                    go_wp2_with fail
                    go_end0
                    refine ⟨rfl, ?_⟩
                    have hfin := symMerge_open lt d a m b h1 h2 D j E (d) (d) HD.out ⟨hD1, hD2⟩ (by rw [if_neg h3, if_neg h3]; exact HPb.out.symm) HE.out.symm (by rw [if_neg (fun h => c1b h.2)]) (by rw [if_neg (fun h => c2a h.1)])
                    rw [if_neg (fun h => c3b h.2)] at hfin
                    rw [hfin]
                    exact Sk.out
                · have c2x : (a : Int) < (j : Int) := by omega
                  have c2y : ¬ (j : Int) < (D : Int) := by omega
                  rcases (show (D < E ∧ E < b) ∨ (¬ D < E) ∨ (D < E ∧ ¬ E < b) by omega) with ⟨c3a, c3b⟩ | c3a | ⟨c3a, c3b⟩
                  · have c3x : (D : Int) < (E : Int) := by omega
                    have c3y : (E : Int) < (b : Int) := by omega
                    have hc31 := IH.out D E b (d) wr (by omega) Sk.out hn c3a c3b hb
                    go_wp2_with fail
                    refine hc31.mono ?_
                    rintro e w4 ⟨rfl, S4q⟩
                    have S4 : Aside _ := S4q
                    clear hc31 S4q
                    clear mL mS
                    have mL := F.methL _ w4 S4.out
                    have mS := F.methS _ w4 S4.out
                    go_wp2_with fail
                    go_end0
                    refine ⟨rfl, ?_⟩
                    have hfin := symMerge_open lt d a m b h1 h2 D j E (d) (d) HD.out ⟨hD1, hD2⟩ (by rw [if_neg h3, if_neg h3]; exact HPb.out.symm) HE.out.symm (by rw [if_neg (fun h => c1b h.2)]) (by rw [if_neg (fun h => c2b h.2)])
                    rw [if_pos ⟨c3a, c3b⟩] at hfin
                    rw [hfin]
                    exact S4.out
                  · have c3x : ¬ (D : Int) < (E : Int) := by omega
                    go_wp2_with fail
                    go_end0
                    refine ⟨rfl, ?_⟩
                    have hfin := symMerge_open lt d a m b h1 h2 D j E (d) (d) HD.out ⟨hD1, hD2⟩ (by rw [if_neg h3, if_neg h3]; exact HPb.out.symm) HE.out.symm (by rw [if_neg (fun h => c1b h.2)]) (by rw [if_neg (fun h => c2b h.2)])
                    rw [if_neg (fun h => c3a h.1)] at hfin
                    rw [hfin]
                    exact Sk.out
                  · have c3x : (D : Int) < (E : Int) := by omega
                    have c3y : ¬ (E : Int) < (b : Int) := by omega
                    go_wp2_with fail
                    go_end0
                    refine ⟨rfl, ?_⟩
                    have hfin := symMerge_open lt d a m b h1 h2 D j E (d) (d) HD.out ⟨hD1, hD2⟩ (by rw [if_neg h3, if_neg h3]; exact HPb.out.symm) HE.out.symm (by rw [if_neg (fun h => c1b h.2)]) (by rw [if_neg (fun h => c2b h.2)])
                    rw [if_neg (fun h => c3b h.2)] at hfin
                    rw [hfin]
                    exact Sk.out
end Go.Proofs.Ytglgmkikegbchaa
