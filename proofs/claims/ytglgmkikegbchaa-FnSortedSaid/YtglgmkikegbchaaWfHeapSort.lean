/- heapSort: the text over an Interface. -/
import Derived.Test.YtglgmkikegbchaaWf0
import Derived.Test.YtglgmkikegbchaaPb
import Derived.Test.YtglgmkikegbchaaWfSiftDown
namespace Go.Proofs.Ytglgmkikegbchaa
open Go.RowKit Go.Sort

set_option maxHeartbeats 4000000 in
set_option maxRecDepth 1000000 in
theorem heapSort_f (T : TypeId) (rv : Value) (lt : It → It → Bool) (gl gs : Nat) (rl rs : Value) (w0 : World) (blk off n : Nat) (F : FaceOk T rv lt w0 blk off n gl gs rl rs) (d : Array It) (w : World) (S : St2 w0 blk off d w) (hn : d.size = n) (hsz : n < 4611686018427387904) (a b : Nat) (hab : a ≤ b) (hb : b ≤ n) :
    Calls Try.prog 106 #[.iface T rv, .int .i64 a, .int .i64 b] w fun e w' =>
      e = .returned (.tuple #[]) ∧ St2 w0 blk off (heapSort lt d a b) w' := by
  obtain ⟨H, hH⟩ : ∃ H, H = b - a := ⟨_, rfl⟩
  have hHz : (b : Int) - (a : Int) = (H : Int) := by omega
  have haH : a + H ≤ n := by omega
  have hh : ((H : Int) - 1).tdiv 2 = (((H - 1) / 2 : Nat) : Int) := by
    rcases Nat.eq_zero_or_pos H with h | h
    · subst h; rfl
    · rw [show (H : Int) - 1 = ((H - 1 : Nat) : Int) by omega]; rfl
  have hEQ : heapSort lt d a b = heapPop lt a H (heapBuild lt H a ((H - 1) / 2 + 1) d) := by rw [heapSort, hH]
  rw [hEQ]
  obtain ⟨h2, hh2⟩ : ∃ h2, h2 = (H - 1) / 2 := ⟨_, rfl⟩
  rw [← hh2] at hh ⊢
  have h2n : h2 ≤ n := by omega
  obtain ⟨D, hD⟩ : ∃ D, D = heapPop lt a H (heapBuild lt H a (h2 + 1) d) := ⟨_, rfl⟩
  rw [← hD]
  have HD0 : Hid (heapPop lt a H (heapBuild lt H a (h2 + 1) d) = D) := hD.symm
  clear hEQ hh2 hH hab hb hD
  have eL := F.eL
  have eS := F.eS
  have S0 : Aside (St2 w0 blk off d w) := S
  clear S
  go_enter Try.func106, Try.ntmps106
  go_wp2_with fail
  go_loopg [9] (h2 + 1) (fun g vi wr => ∃ (K : Int) (k : Nat) (dk : Array It), vi = .int .i64 K ∧ K + 1 = (k : Int) ∧ k ≤ h2 + 1 ∧ k ≤ g ∧ dk.size = n ∧ Aside (St2 w0 blk off dk wr) ∧ Hid (heapBuild lt H a k dk = heapBuild lt H a (h2 + 1) d))
  case atStart => exact ⟨(h2 : Int), h2 + 1, d, rfl, by omega, Nat.le_refl _, Nat.le_refl _, hn, S0, rfl⟩
  case round =>
    obtain ⟨K, k, dk, rfl, hK, hk, hg, hsk, Sk, HO⟩ := hrel
    by_cases hK0 : 0 ≤ K
    · obtain ⟨kp, rfl⟩ := Int.eq_ofNat_of_zero_le hK0
      obtain rfl : k = kp + 1 := by omega
      clear hK
      have mL := F.methL _ wr Sk.out
      have mS := F.methS _ wr Sk.out
      have hc1 := siftDown_f T rv lt gl gs rl rs w0 blk off n F dk wr Sk.out hsk hsz kp H a (by omega) haH
      go_wp2_with fail
      refine hc1.mono ?_
      rintro e w2 ⟨rfl, S2q⟩
      have S2 : Aside _ := S2q
      clear hc1 S2q
      clear mL mS
      have mL := F.methL _ w2 S2.out
      have mS := F.methS _ w2 S2.out
      go_wp2_with fail
      go_roundg kp
      case measure => omega
      case rel => exact ⟨(kp : Int) - 1, kp, siftDown lt H a kp dk, by go_num, by omega, by omega, by omega, by rw [size_siftDown _ _ _ _ (by omega)]; exact hsk, S2, HO⟩
    · obtain rfl : k = 0 := by omega
      have HD : Hid (heapPop lt a H dk = D) := by show _ = _; rw [← HD0.out, ← HO.out]; rfl
      clear HO hh hK hk h2n HD0
      go_wp2_with fail
      go_loopg [10] H (fun g vi wr => ∃ (K : Int) (k : Nat) (dk : Array It), vi = .int .i64 K ∧ K + 1 = (k : Int) ∧ k ≤ H ∧ k ≤ g ∧ dk.size = n ∧ Aside (St2 w0 blk off dk wr) ∧ Hid (heapPop lt a k dk = D))
      case atStart => exact ⟨(H : Int) - 1, H, dk, by go_num, by omega, Nat.le_refl _, Nat.le_refl _, hsk, Sk, HD⟩
      case round =>
        obtain ⟨K, k, dk, rfl, hK, hk, hg, hsk, Sk, HO⟩ := hrel
        by_cases hK0 : 0 ≤ K
        · obtain ⟨kp, rfl⟩ := Int.eq_ofNat_of_zero_le hK0
          obtain rfl : k = kp + 1 := by omega
          clear hK
          have mL := F.methL _ wr Sk.out
          have mS := F.methS _ wr Sk.out
          have hs := F.swap dk wr (a) (a + kp) (by omega) Sk.out (by omega) (by omega)
          rw [show ((a + kp : Nat) : Int) = (a : Int) + (kp : Int) by omega] at hs
          go_wp2_with fail
          refine hs.mono ?_
          rintro e w2 ⟨rfl, S2q, hgr⟩
          have S2 : Aside _ := S2q
          clear mL mS hs hgr S2q
          have mL := F.methL _ w2 S2.out
          have mS := F.methS _ w2 S2.out
          have hc3 := siftDown_f T rv lt gl gs rl rs w0 blk off n F (swp dk a (a + kp)) w2 S2.out (by rw [size_swp]; exact hsk) hsz 0 kp a (by omega) (by omega)
          go_wp2_with fail
          refine hc3.mono ?_
          rintro e w3 ⟨rfl, S3q⟩
          have S3 : Aside _ := S3q
          clear hc3 S3q
          clear mL mS
          have mL := F.methL _ w3 S3.out
          have mS := F.methS _ w3 S3.out
          go_wp2_with fail
          go_roundg kp
          case measure => omega
          case rel => exact ⟨(kp : Int) - 1, kp, siftDown lt kp a 0 (swp dk a (a + kp)), by go_num, by omega, by omega, by omega, by rw [size_siftDown _ _ _ _ (by rw [size_swp]; omega), size_swp]; exact hsk, S3, HO⟩
        · obtain rfl : k = 0 := by omega
          have hB : dk = D := HO.out
          subst hB
          go_wp2_with fail
          go_end0
          exact ⟨rfl, Sk.out⟩
end Go.Proofs.Ytglgmkikegbchaa
