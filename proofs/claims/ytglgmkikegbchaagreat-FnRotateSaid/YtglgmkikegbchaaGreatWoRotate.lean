/- rotate: the text over the keys alone. -/
import Derived.Test.YtglgmkikegbchaaGreatWo0
import Derived.Test.YtglgmkikegbchaaGreatPb
import Derived.Test.YtglgmkikegbchaaGreatWoSwapRange
namespace Go.Proofs.YtglgmkikegbchaaGreat
open Go.RowKit Go.Sort

set_option maxHeartbeats 4000000 in
set_option maxRecDepth 1000000 in
theorem rotate_o (w0 : World) (blk off cap n : Nat) (d : Array Int) (w : World) (S : St1 e64 w0 blk off d w) (hn : d.size = n) (hsz : n < 4611686018427387904) (a m b : Nat) (ham : a < m) (hmb : m < b) (hb : b ≤ n) :
    Calls Tryz.prog 170 #[.slice (some ⟨blk, off, none⟩) n cap, .int .i64 a, .int .i64 m, .int .i64 b] w fun e w' =>
      e = .returned (.tuple #[]) ∧ St1 e64 w0 blk off (rotate d a m b) w' := by
  have S0 : Aside (St1 e64 w0 blk off d w) := S
  clear S
  go_enter Tryz.func170, Tryz.ntmps170
  go_wp2
  go_loopg [8, 9] (b - a) (fun g vi vj wr => ∃ (i j : Nat) (dk : Array Int), vi = .int .i64 i ∧ vj = .int .i64 j ∧ 0 < i ∧ 0 < j ∧ i ≤ m ∧ m + j ≤ n ∧ i + j ≤ g ∧ dk.size = n ∧ Aside (St1 e64 w0 blk off dk wr) ∧ Hid (rotLoop m i j dk = rotate d a m b))
  case atStart => exact ⟨m - a, b - m, d, by go_num, by go_num, by omega, by omega, by omega, by omega, by omega, hn, S0, rfl⟩
  case round =>
    obtain ⟨i, j, dk, rfl, rfl, hi0, hj0, him, hjn, hg, hsk, Sk, HO⟩ := hrel
    by_cases heq : i = j
    · subst heq
      have e1 : (m : Int) - (i : Int) = ((m - i : Nat) : Int) := by omega
      clear e1
      have hc1 := swapRange_o w0 blk off cap n dk wr Sk.out hsk hsz (m - i) m i (by omega) (by omega)
      rw [show ((m - i : Nat) : Int) = (m : Int) - (i : Int) by omega] at hc1
      go_wp2_with fail
      refine hc1.mono ?_
      rintro e w2 ⟨rfl, S2q⟩
      have S2 : Aside _ := S2q
      clear hc1 S2q
      go_wp2_with fail
      go_end0
      exact ⟨rfl, by rw [← HO.out, rot_stop]; exact S2.out⟩
    · have heqz : ¬ (i : Int) = (j : Int) := by omega
      by_cases hlt : j < i
      · have hltz : (j : Int) < (i : Int) := by omega
        have hc2 := swapRange_o w0 blk off cap n dk wr Sk.out hsk hsz (m - i) m j (by omega) (by omega)
        rw [show ((m - i : Nat) : Int) = (m : Int) - (i : Int) by omega] at hc2
        go_wp2_with fail
        refine hc2.mono ?_
        rintro e w2 ⟨rfl, S2q⟩
        have S2 : Aside _ := S2q
        clear hc2 S2q
        go_wp2_with fail
        go_roundg (i - j + j)
        case measure => omega
        case rel => exact ⟨i - j, j, swapRange dk (m - i) m j, by go_num, rfl, by omega, by omega, by omega, by omega, by omega, by rw [size_swapRange]; exact hsk, S2, (rot_more _ _ _ _ hlt hj0).symm.trans HO.out⟩
      · have hltz : ¬ (j : Int) < (i : Int) := by omega
        have hc3 := swapRange_o w0 blk off cap n dk wr Sk.out hsk hsz (m - i) (m + j - i) i (by omega) (by omega)
        rw [show ((m - i : Nat) : Int) = (m : Int) - (i : Int) by omega] at hc3
        rw [show ((m + j - i : Nat) : Int) = (m : Int) + (j : Int) - (i : Int) by omega] at hc3
        go_wp2_with fail
        refine hc3.mono ?_
        rintro e w2 ⟨rfl, S2q⟩
        have S2 : Aside _ := S2q
        clear hc3 S2q
        go_wp2_with fail
        go_roundg (i + (j - i))
        case measure => omega
        case rel => exact ⟨i, j - i, swapRange dk (m - i) (m + j - i) i, rfl, by go_num, by omega, by omega, by omega, by omega, by omega, by rw [size_swapRange]; exact hsk, S2, (rot_less _ _ _ _ (by omega) hi0).symm.trans HO.out⟩
end Go.Proofs.YtglgmkikegbchaaGreat
