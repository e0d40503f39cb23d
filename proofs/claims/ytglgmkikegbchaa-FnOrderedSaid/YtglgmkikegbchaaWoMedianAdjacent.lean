/- medianAdjacent: the text over the keys alone. -/
import Derived.Test.YtglgmkikegbchaaWo0
import Derived.Test.YtglgmkikegbchaaPb
import Derived.Test.YtglgmkikegbchaaWoMedian
import Derived.Test.YtglgmkikegbchaaKb
import Derived.Test.YtglgmkikegbchaaPd
namespace Go.Proofs.Ytglgmkikegbchaa
open Go.RowKit Go.Sort

set_option maxHeartbeats 4000000 in
set_option maxRecDepth 1000000 in
theorem medianAdjacent_o (w0 : World) (blk off cap n : Nat) (d : Array Int) (w : World) (S : St1 e64 w0 blk off d w) (hn : d.size = n) (hsz : n < 4611686018427387904) (a sb s : Nat) (ha1 : 1 ≤ a) (ha : a + 1 < n) (hs : s < 800) (Q : Box1 w0 w blk sb (.int .i64 s)) :
    Calls Try.prog 154 #[.slice (some ⟨blk, off, none⟩) n cap, .int .i64 a, .pointer (some ⟨sb, 0, none⟩)] w fun e w' =>
      e = .returned (.int .i64 (medianAdjacent ltInt d a s).1) ∧ St1 e64 w0 blk off d w' ∧ Box1 w0 w' blk sb (.int .i64 (medianAdjacent ltInt d a s).2) := by
  obtain ⟨ap, rfl⟩ : ∃ ap, a = ap + 1 := ⟨a - 1, by omega⟩
  have Q0 : Aside _ := Q
  clear Q
  have hc1 := median_o w0 blk off cap n d w S hn hsz ap (ap + 1) (ap + 1 + 1) sb s (by omega) (by omega) (by omega) (by omega) Q0.out
  rw [show ((ap + 1 + 1 : Nat) : Int) = (ap : Int) + 1 + 1 by omega, show ((ap + 1 : Nat) : Int) = (ap : Int) + 1 by omega] at hc1
  have HM : median ltInt d ap (ap + 1) (ap + 1 + 1) s = medianAdjacent ltInt d (ap + 1) s := rfl
  rw [HM] at hc1
  clear HM
  have S0 : Aside (St1 e64 w0 blk off d w) := S
  clear S
  go_enter Try.func154, Try.ntmps154
  go_wp2_with fail
  refine hc1.mono ?_
  rintro e w1 ⟨rfl, S1q, Q1q⟩
  have S1 : Aside _ := S1q
  have Q1 : Aside _ := Q1q
  clear hc1 S1q Q1q
  go_wp2_with fail
  go_ret
  exact ⟨rfl, S1.out, Q1.out⟩
end Go.Proofs.Ytglgmkikegbchaa
