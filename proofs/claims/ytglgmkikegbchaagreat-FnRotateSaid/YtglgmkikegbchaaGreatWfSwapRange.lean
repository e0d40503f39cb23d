/- swapRange: the text over an Interface. -/
import Derived.Test.YtglgmkikegbchaaGreatWf0
import Derived.Test.YtglgmkikegbchaaGreatPb
namespace Go.Proofs.YtglgmkikegbchaaGreat
open Go.RowKit Go.Sort

set_option maxHeartbeats 4000000 in
set_option maxRecDepth 1000000 in
theorem swapRange_f (T : TypeId) (rv : Value) (lt : It → It → Bool) (gl gs : Nat) (rl rs : Value) (w0 : World) (blk off n : Nat) (F : FaceOk T rv lt w0 blk off n gl gs rl rs) (d : Array It) (w : World) (S : St2 w0 blk off d w) (hn : d.size = n) (hsz : n < 4611686018427387904) (a b c : Nat) (h1 : a + c ≤ n) (h2 : b + c ≤ n) :
    Calls Tryz.prog 151 #[.iface T rv, .int .i64 a, .int .i64 b, .int .i64 c] w fun e w' =>
      e = .returned (.tuple #[]) ∧ St2 w0 blk off (swapRange d a b c) w' := by
  have eL := F.eL
  have eS := F.eS
  have S0 : Aside (St2 w0 blk off d w) := S
  clear S
  go_enter Tryz.func151, Tryz.ntmps151
  go_wp2
  go_loopg [8] c (fun g vi wr => ∃ (i : Nat) (dk : Array It), vi = .int .i64 i ∧ i ≤ c ∧ c - i ≤ g ∧ dk.size = n ∧ Aside (St2 w0 blk off dk wr) ∧ Hid (swapLoop a b (c - i) i dk = swapRange d a b c))
  case atStart => exact ⟨0, d, rfl, Nat.zero_le _, by omega, hn, S0, rfl⟩
  case round =>
    obtain ⟨i, dk, rfl, hic, hg, hsk, Sk, HO⟩ := hrel
    by_cases hlt : i < c
    · have hltz : (i : Int) < (c : Int) := by omega
      have mL := F.methL _ wr Sk.out
      have mS := F.methS _ wr Sk.out
      have hs := F.swap dk wr (a + i) (b + i) (by omega) Sk.out (by omega) (by omega)
      rw [show ((a + i : Nat) : Int) = (a : Int) + (i : Int) by omega] at hs
      rw [show ((b + i : Nat) : Int) = (b : Int) + (i : Int) by omega] at hs
      go_wp2_with fail
      refine hs.mono ?_
      rintro e w2 ⟨rfl, S2q, hgr⟩
      have S2 : Aside _ := S2q
      clear mL mS hs hgr S2q
      have mL := F.methL _ w2 S2.out
      have mS := F.methS _ w2 S2.out
      go_wp2_with fail
      go_roundg (c - (i + 1))
      case measure => omega
      case rel => exact ⟨i + 1, swp dk (a + i) (b + i), by go_num, by omega, by omega, by rw [size_swp]; exact hsk, S2, (swapLoop_go _ _ _ _ _ hlt).symm.trans HO.out⟩
    · have hltz : ¬ (i : Int) < (c : Int) := by omega
      go_wp2
      go_end0
      exact ⟨rfl, by rw [← HO.out, swapLoop_stop _ _ _ _ _ hlt]; exact Sk.out⟩
end Go.Proofs.YtglgmkikegbchaaGreat
