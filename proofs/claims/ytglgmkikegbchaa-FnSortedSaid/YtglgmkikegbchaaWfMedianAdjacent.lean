/- medianAdjacent: the text over an Interface. -/
import Derived.Test.YtglgmkikegbchaaWf0
import Derived.Test.YtglgmkikegbchaaPb
import Derived.Test.YtglgmkikegbchaaWfMedian
import Derived.Test.YtglgmkikegbchaaKb
import Derived.Test.YtglgmkikegbchaaPd
namespace Go.Proofs.Ytglgmkikegbchaa
open Go.RowKit Go.Sort

set_option maxHeartbeats 4000000 in
set_option maxRecDepth 1000000 in
theorem medianAdjacent_f (T : TypeId) (rv : Value) (lt : It → It → Bool) (gl gs : Nat) (rl rs : Value) (w0 : World) (blk off n : Nat) (F : FaceOk T rv lt w0 blk off n gl gs rl rs) (d : Array It) (w : World) (S : St2 w0 blk off d w) (hn : d.size = n) (hsz : n < 4611686018427387904) (a sb s : Nat) (ha1 : 1 ≤ a) (ha : a + 1 < n) (hs : s < 800) (Q : Box1 w0 w blk sb (.int .i64 s)) :
    Calls Try.prog 145 #[.iface T rv, .int .i64 a, .pointer (some ⟨sb, 0, none⟩)] w fun e w' =>
      e = .returned (.int .i64 (medianAdjacent lt d a s).1) ∧ St2 w0 blk off d w' ∧ Box1 w0 w' blk sb (.int .i64 (medianAdjacent lt d a s).2) := by
  obtain ⟨ap, rfl⟩ : ∃ ap, a = ap + 1 := ⟨a - 1, by omega⟩
  have Q0 : Aside _ := Q
  clear Q
  have hc1 := median_f T rv lt gl gs rl rs w0 blk off n F d w S hn hsz ap (ap + 1) (ap + 1 + 1) sb s (by omega) (by omega) (by omega) (by omega) Q0.out
  rw [show ((ap + 1 + 1 : Nat) : Int) = (ap : Int) + 1 + 1 by omega, show ((ap + 1 : Nat) : Int) = (ap : Int) + 1 by omega] at hc1
  have HM : median lt d ap (ap + 1) (ap + 1 + 1) s = medianAdjacent lt d (ap + 1) s := rfl
  rw [HM] at hc1
  clear HM
  have eL := F.eL
  have eS := F.eS
  have S0 : Aside (St2 w0 blk off d w) := S
  clear S
  go_enter Try.func145, Try.ntmps145
  go_wp2_with fail
  refine hc1.mono ?_
  rintro e w1 ⟨rfl, S1q, Q1q⟩
  have S1 : Aside _ := S1q
  have Q1 : Aside _ := Q1q
  clear hc1 S1q Q1q
  go_wp2_with fail
  go_ret
  exact ⟨rfl, S1.out, Q1.out⟩
end Go.Proofs.Ytglgmkikegbchaa
