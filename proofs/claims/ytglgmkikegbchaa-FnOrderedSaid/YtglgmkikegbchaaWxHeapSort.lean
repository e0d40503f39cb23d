/- heapSort: the text over the keys alone, floats. -/
import Derived.Test.YtglgmkikegbchaaWx0
import Derived.Test.YtglgmkikegbchaaPb
import Derived.Test.YtglgmkikegbchaaWxSiftDown
namespace Go.Proofs.Ytglgmkikegbchaa
open Go.RowKit Go.Sort
attribute [local go_sem] run_store_float

set_option maxHeartbeats 4000000 in
set_option maxRecDepth 1000000 in
theorem heapSort_x (w0 : World) (blk off cap n : Nat) (d : Array Nat) (w : World) (S : St1 eFl w0 blk off d w) (hn : d.size = n) (hsz : n < 4611686018427387904) (a b : Nat) (hab : a ≤ b) (hb : b ≤ n) :
    Calls Try.prog 119 #[.slice (some ⟨blk, off, none⟩) n cap, .int .i64 a, .int .i64 b] w fun e w' =>
      e = .returned (.tuple #[]) ∧ St1 eFl w0 blk off (heapSort ltFl d a b) w' := by
  obtain ⟨H, hH⟩ : ∃ H, H = b - a := ⟨_, rfl⟩
  have hHz : (b : Int) - (a : Int) = (H : Int) := by omega
  have haH : a + H ≤ n := by omega
  have hh : ((H : Int) - 1).tdiv 2 = (((H - 1) / 2 : Nat) : Int) := by
    rcases Nat.eq_zero_or_pos H with h | h
    · subst h; rfl
    · rw [show (H : Int) - 1 = ((H - 1 : Nat) : Int) by omega]; rfl
  have hEQ : heapSort ltFl d a b = heapPop ltFl a H (heapBuild ltFl H a ((H - 1) / 2 + 1) d) := by rw [heapSort, hH]
  rw [hEQ]
  obtain ⟨h2, hh2⟩ : ∃ h2, h2 = (H - 1) / 2 := ⟨_, rfl⟩
  rw [← hh2] at hh ⊢
  have h2n : h2 ≤ n := by omega
  obtain ⟨D, hD⟩ : ∃ D, D = heapPop ltFl a H (heapBuild ltFl H a (h2 + 1) d) := ⟨_, rfl⟩
  rw [← hD]
  have HD0 : Hid (heapPop ltFl a H (heapBuild ltFl H a (h2 + 1) d) = D) := hD.symm
  clear hEQ hh2 hH hab hb hD
  have S0 : Aside (St1 eFl w0 blk off d w) := S
  clear S
  go_enter Try.func119, Try.ntmps119
  go_wp2_with fail
  go_loopg [9] (h2 + 1) (fun g vi wr => ∃ (K : Int) (k : Nat) (dk : Array Nat), vi = .int .i64 K ∧ K + 1 = (k : Int) ∧ k ≤ h2 + 1 ∧ k ≤ g ∧ dk.size = n ∧ Aside (St1 eFl w0 blk off dk wr) ∧ Hid (heapBuild ltFl H a k dk = heapBuild ltFl H a (h2 + 1) d))
  case atStart => exact ⟨(h2 : Int), h2 + 1, d, rfl, by omega, Nat.le_refl _, Nat.le_refl _, hn, S0, rfl⟩
  case round =>
    obtain ⟨K, k, dk, rfl, hK, hk, hg, hsk, Sk, HO⟩ := hrel
    by_cases hK0 : 0 ≤ K
    · obtain ⟨kp, rfl⟩ := Int.eq_ofNat_of_zero_le hK0
      obtain rfl : k = kp + 1 := by omega
      clear hK
      have hc1 := siftDown_x w0 blk off cap n dk wr Sk.out hsk hsz kp H a (by omega) haH
      go_wp2_with fail
      refine hc1.mono ?_
      rintro e w2 ⟨rfl, S2q⟩
      have S2 : Aside _ := S2q
      clear hc1 S2q
      go_wp2_with fail
      go_roundg kp
      case measure => omega
      case rel => exact ⟨(kp : Int) - 1, kp, siftDown ltFl H a kp dk, by go_num, by omega, by omega, by omega, by rw [size_siftDown _ _ _ _ (by omega)]; exact hsk, S2, HO⟩
    · obtain rfl : k = 0 := by omega
      have HD : Hid (heapPop ltFl a H dk = D) := by show _ = _; rw [← HD0.out, ← HO.out]; rfl
      clear HO hh hK hk h2n HD0
      go_wp2_with fail
      go_loopg [10] H (fun g vi wr => ∃ (K : Int) (k : Nat) (dk : Array Nat), vi = .int .i64 K ∧ K + 1 = (k : Int) ∧ k ≤ H ∧ k ≤ g ∧ dk.size = n ∧ Aside (St1 eFl w0 blk off dk wr) ∧ Hid (heapPop ltFl a k dk = D))
      case atStart => exact ⟨(H : Int) - 1, H, dk, by go_num, by omega, Nat.le_refl _, Nat.le_refl _, hsk, Sk, HD⟩
      case round =>
        obtain ⟨K, k, dk, rfl, hK, hk, hg, hsk, Sk, HO⟩ := hrel
        by_cases hK0 : 0 ≤ K
        · obtain ⟨kp, rfl⟩ := Int.eq_ofNat_of_zero_le hK0
          obtain rfl : k = kp + 1 := by omega
          clear hK
          have bi2 : (a : Int) < (n : Int) := by omega
          have bj2 : (a : Int) + (kp : Int) < (n : Int) := by omega
          have pj2 : (0 : Int) ≤ (a : Int) + (kp : Int) := by omega
          have ej2 : ((a : Int) + (kp : Int)).toNat = a + kp := by omega
          obtain ⟨x, hx⟩ : ∃ x, x = dk[a]! := ⟨_, rfl⟩
          obtain ⟨y, hy⟩ : ∃ y, y = dk[a + kp]! := ⟨_, rfl⟩
          have c1 : wr.cell? ⟨blk, off + (a), none⟩ = some (.float .f64 x) := by rw [hx]; exact Sk.out.cell (by omega)
          have c2 : wr.cell? ⟨blk, off + (a + kp), none⟩ = some (.float .f64 y) := by rw [hy]; exact Sk.out.cell (by omega)
          have f1 : wr.frozen? ⟨blk, off + (a), none⟩ = false := Sk.out.frozen (by omega)
          have f2 : wr.frozen? ⟨blk, off + (a + kp), none⟩ = false := Sk.out.frozen (by omega)
          obtain ⟨u2, g2⟩ := Sk.out.second (a) (a + kp) (by omega) (by omega) (.float .f64 y)
          have S2 : Aside _ := (Sk.out.swap (by omega) (by omega) hx hy).drew
          clear hx hy
          go_wp2_with fail
          go_region
          clear c1 c2 f1 f2 g2
          generalize ((wr.setCell ⟨blk, off + (a), none⟩ (.float .f64 y)).setCell ⟨blk, off + (a + kp), none⟩ (.float .f64 x)).drew = w2 at S2 ⊢
          clear bi2 bj2 pj2 ej2
          have hc3 := siftDown_x w0 blk off cap n (swp dk a (a + kp)) w2 S2.out (by rw [size_swp]; exact hsk) hsz 0 kp a (by omega) (by omega)
          go_wp2_with fail
          refine hc3.mono ?_
          rintro e w3 ⟨rfl, S3q⟩
          have S3 : Aside _ := S3q
          clear hc3 S3q
          go_wp2_with fail
          go_roundg kp
          case measure => omega
          case rel => exact ⟨(kp : Int) - 1, kp, siftDown ltFl kp a 0 (swp dk a (a + kp)), by go_num, by omega, by omega, by omega, by rw [size_siftDown _ _ _ _ (by rw [size_swp]; omega), size_swp]; exact hsk, S3, HO⟩
        · obtain rfl : k = 0 := by omega
          have hB : dk = D := HO.out
          subst hB
          go_wp2_with fail
          go_end0
          exact ⟨rfl, Sk.out⟩
end Go.Proofs.Ytglgmkikegbchaa
