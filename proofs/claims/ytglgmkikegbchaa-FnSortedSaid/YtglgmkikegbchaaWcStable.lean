/- stable: the text by a function that compares, over elements of two cells. -/
import Derived.Test.YtglgmkikegbchaaWc0
import Derived.Test.YtglgmkikegbchaaPb
import Derived.Test.YtglgmkikegbchaaWcInsertionSort
import Derived.Test.YtglgmkikegbchaaWcSymMerge
import Derived.Test.YtglgmkikegbchaaPh
namespace Go.Proofs.Ytglgmkikegbchaa
open Go.RowKit Go.Sort

set_option maxHeartbeats 16000000 in
set_option maxRecDepth 1000000 in
theorem stable_c (O : Value) (cf : It → It → Int) (hC : CmpC O cf) (w0 : World) (blk off cap n : Nat) (d : Array It) (w : World) (S : St2 w0 blk off d w) (hn : d.size = n) (hsz : n < 4611686018427387904) (M : Nat) (hM : M ≤ n) :
    Calls Try.prog 79 #[.slice (some ⟨blk, off, none⟩) n cap, .int .i64 M, .func (.func 36) #[O] #[]] w fun e w' =>
      e = .returned (.tuple #[]) ∧ St2 w0 blk off (stable (ltC cf) d M) w' := by
  obtain ⟨R, hR⟩ : ∃ R, R = stable (ltC cf) d M := ⟨_, rfl⟩
  rw [← hR]
  obtain ⟨B, hB⟩ : ∃ B, B = insBlocks (ltC cf) 20 M 0 d := ⟨_, rfl⟩
  have HR : Hid (stableLoop (ltC cf) M 20 B = R) := by show _ = _; rw [hR, hB]; rfl
  have HB : Hid (insBlocks (ltC cf) 20 M 0 d = B) := hB.symm
  clear hR hB
  have mixed : Try.prog.follows .mixedOrders = true := by kernel_rfl
  have HC : Aside (CmpC O cf) := hC
  have S0 : Aside (St2 w0 blk off d w) := S
  clear S
  go_enter Try.func79, Try.ntmps79
  go_wp2_with fail
  go_loopg [7, 8] M (fun g va vb wr => ∃ (a : Nat) (dk : Array It), va = .int .i64 a ∧ vb = .int .i64 ((a : Int) + 20) ∧ a ≤ M ∧ M - a ≤ g ∧ dk.size = n ∧ Aside (St2 w0 blk off dk wr) ∧ Hid (insBlocks (ltC cf) 20 M a dk = B))
  case atStart => exact ⟨0, d, rfl, by go_num, by omega, by omega, hn, S0, HB⟩
  case round =>
    clear S0 HB
    obtain ⟨a, dk, rfl, rfl, haM, hg, hsk, Sk, HO⟩ := hrel
    by_cases hb : a + 20 ≤ M
    · have hbz : (a : Int) + 20 ≤ (M : Int) := by omega
      have hs1 : (insertionSort (ltC cf) dk a (a + 20)).size = n := (insertionSort_perm (lt := (ltC cf)) dk a (a + 20) (by omega)).1.trans hsk
      have hc1 := insertionSort_c O cf hC w0 blk off cap n dk wr Sk.out hsk hsz a (a + 20) (by omega) (by omega)
      rw [show ((a + 20 : Nat) : Int) = (a : Int) + 20 by omega] at hc1
      go_wp2_with fail
      refine hc1.mono ?_
      rintro e w2 ⟨rfl, S2q⟩
      have S2 : Aside _ := S2q
      clear hc1 S2q
      go_wp2_with fail
      go_roundg (M - (a + 20))
      case measure => omega
      case rel => exact ⟨a + 20, _, by go_num, by go_num, by omega, Nat.le_refl _, hs1, S2, (insBlocks_go (ltC cf) 20 M a dk hb (by omega)).symm.trans HO.out⟩
    · have hbz : ¬ (a : Int) + 20 ≤ (M : Int) := by omega
      have hs1 : (insertionSort (ltC cf) dk a M).size = n := (insertionSort_perm (lt := (ltC cf)) dk a M (by omega)).1.trans hsk
      have hI : insertionSort (ltC cf) dk a M = B := (insBlocks_end (ltC cf) 20 M a dk hb).symm.trans HO.out
      have hc2 := insertionSort_c O cf hC w0 blk off cap n dk wr Sk.out hsk hsz a M (by omega) (by omega)
      rw [hI] at hc2 hs1
      clear hI HO Sk
      go_wp2_with fail
      refine hc2.mono ?_
      rintro e w2 ⟨rfl, S2q⟩
      have S2 : Aside _ := S2q
      clear hc2 S2q
      go_wp2_with fail
      go_loopg [6] M (fun g vs wr => ∃ (s : Nat) (dj : Array It), vs = .int .i64 s ∧ 20 ≤ s ∧ M - s ≤ g ∧ dj.size = n ∧ Aside (St2 w0 blk off dj wr) ∧ Hid (stableLoop (ltC cf) M s dj = R))
      case atStart => exact ⟨20, B, rfl, Nat.le_refl _, by omega, hs1, S2, HR⟩
      case round =>
        clear S2 HR hs1
        obtain ⟨s, dj, rfl, hs20, hgs, hsj, Sj, HS⟩ := hrel
        by_cases hs : s < M
        · have hsz1 : (s : Int) < (M : Int) := by omega
          obtain ⟨P, hP⟩ : ∃ P, P = mergePass (ltC cf) s M 0 dj := ⟨_, rfl⟩
          have HP : Hid (mergePass (ltC cf) s M 0 dj = P) := hP.symm
          have hsP : P.size = n := by rw [hP, (mergePass_perm (ltC cf) s M _ 0 dj (Nat.le_refl _) (by omega) (by omega)).1]; exact hsj
          have HN : Hid (stableLoop (ltC cf) M (s * 2) P = R) := by show _ = _; rw [hP]; exact (stableLoop_go (ltC cf) M s dj hs (by omega)).symm.trans HS.out
          clear hP HS
          go_wp2_with fail
          go_loopg [7, 8] M (fun g va vb wr => ∃ (c : Nat) (dc : Array It), va = .int .i64 c ∧ vb = .int .i64 ((c : Int) + 2 * (s : Int)) ∧ c ≤ M ∧ (c = 0 ∨ 2 * s ≤ M) ∧ M - c ≤ g ∧ dc.size = n ∧ Aside (St2 w0 blk off dc wr) ∧ Hid (mergePass (ltC cf) s M c dc = P))
          case atStart => exact ⟨0, dj, rfl, by go_num, by omega, Or.inl rfl, by omega, hsj, Sj, HP⟩
          case round =>
            clear Sj HP
            obtain ⟨c, dc, rfl, rfl, hcM, hc0, hgc, hsc, Sc, HC2⟩ := hrel
            by_cases hcs : c + 2 * s ≤ M
            · have hcsz : (c : Int) + 2 * (s : Int) ≤ (M : Int) := by omega
              have hs2 : (symMerge (ltC cf) dc c (c + s) (c + 2 * s)).size = n := (symMerge_perm (ltC cf) _ c (c + s) (c + 2 * s) dc (Nat.le_refl _) (by omega) (by omega) (by omega)).1.trans hsc
              have hc3 := symMergeN_c O cf hC w0 blk off cap n hsz (c + 2 * s - c + 1) c (c + s) (c + 2 * s) dc wr (by omega) Sc.out hsc (by omega) (by omega) (by omega)
              rw [show ((c + s : Nat) : Int) = (c : Int) + (s : Int) by omega] at hc3
              rw [show ((c + 2 * s : Nat) : Int) = (c : Int) + 2 * (s : Int) by omega] at hc3
              go_wp2_with fail
              refine hc3.mono ?_
              rintro e w3 ⟨rfl, S3q⟩
              have S3 : Aside _ := S3q
              clear hc3 S3q
              go_wp2_with fail
              go_roundg (M - (c + 2 * s))
              case measure => omega
              case rel => exact ⟨c + 2 * s, _, by go_num, by go_num, by omega, Or.inr (by omega), Nat.le_refl _, hs2, S3, (mergePass_go (ltC cf) s M c dc hcs (by omega)).symm.trans HC2.out⟩
            · have hcsz : ¬ (c : Int) + 2 * (s : Int) ≤ (M : Int) := by omega
              by_cases hcm : c + s < M
              · have hcmz : (c : Int) + (s : Int) < (M : Int) := by omega
                have hI : symMerge (ltC cf) dc c (c + s) M = P := (mergePass_last (ltC cf) s M c dc hcs hcm).symm.trans HC2.out
                have hc4 := symMergeN_c O cf hC w0 blk off cap n hsz (M - c + 1) c (c + s) M dc wr (by omega) Sc.out hsc (by omega) (by omega) (by omega)
                rw [hI] at hc4
                clear hI HC2 Sc
                rw [show ((c + s : Nat) : Int) = (c : Int) + (s : Int) by omega] at hc4
                go_wp2_with fail
                refine hc4.mono ?_
                rintro e w3 ⟨rfl, S3q⟩
                have S3 : Aside _ := S3q
                clear hc4 S3q
                go_wp2_with fail
                go_roundg (M - s * 2)
                case measure => omega
                case rel => exact ⟨s * 2, P, by go_num, by omega, Nat.le_refl _, hsP, S3, HN⟩
              · have hcmz : ¬ (c : Int) + (s : Int) < (M : Int) := by omega
                have hI : dc = P := (mergePass_end (ltC cf) s M c dc hcs hcm).symm.trans HC2.out
                subst hI
                clear HC2
                go_wp2_with fail
                go_roundg (M - s * 2)
                case measure => omega
                case rel => exact ⟨s * 2, dc, by go_num, by omega, Nat.le_refl _, hsP, Sc, HN⟩
        · have hsz1 : ¬ (s : Int) < (M : Int) := by omega
          have hE : dj = R := (stableLoop_end (ltC cf) M s dj hs).symm.trans HS.out
          subst hE
          go_wp2_with fail
          go_end0
          exact ⟨rfl, Sj.out⟩
end Go.Proofs.Ytglgmkikegbchaa
