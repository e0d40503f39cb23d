/- median: the text over the keys alone, floats. -/
import Derived.Test.YtglgmkikegbchaaWx0
import Derived.Test.YtglgmkikegbchaaPb
import Derived.Test.YtglgmkikegbchaaWxOrder2
import Derived.Test.YtglgmkikegbchaaKb
import Derived.Test.YtglgmkikegbchaaPd
namespace Go.Proofs.Ytglgmkikegbchaa
open Go.RowKit Go.Sort
attribute [local go_sem] run_store_float

set_option maxHeartbeats 4000000 in
set_option maxRecDepth 1000000 in
theorem median_x (w0 : World) (blk off cap n : Nat) (d : Array Nat) (w : World) (S : St1 eFl w0 blk off d w) (hn : d.size = n) (hsz : n < 4611686018427387904) (a b c sb s : Nat) (ha : a < n) (hb : b < n) (hcn : c < n) (hs : s < 900) (Q : Box1 w0 w blk sb (.int .i64 s)) :
    Calls Try.prog 151 #[.slice (some ⟨blk, off, none⟩) n cap, .int .i64 a, .int .i64 b, .int .i64 c, .pointer (some ⟨sb, 0, none⟩)] w fun e w' =>
      e = .returned (.int .i64 (median ltFl d a b c s).1) ∧ St1 eFl w0 blk off d w' ∧ Box1 w0 w' blk sb (.int .i64 (median ltFl d a b c s).2) := by
  have Q0 : Aside _ := Q
  clear Q
  have S0 : Aside (St1 eFl w0 blk off d w) := S
  clear S
  go_enter Try.func151, Try.ntmps151
  obtain ⟨⟨x1, y1, s1⟩, h1⟩ : ∃ r, r = order2 ltFl d a b s := ⟨_, rfl⟩
  have l1 := order2_in ltFl d s ha hb
  have t1 := order2_count ltFl d a b s
  have hc1 := order2_x w0 blk off cap n d w S0.out hn hsz a b sb s ha hb (by omega) Q0.out
  rw [← h1] at l1 t1 hc1
  dsimp only at l1 t1 hc1
  have E1 : Hid (order2 ltFl d a b s = (x1, y1, s1)) := h1.symm
  clear h1
  go_wp2_with fail
  refine hc1.mono ?_
  rintro e w11 ⟨rfl, S1q, Q1q⟩
  have S1 : Aside _ := S1q
  have Q1 : Aside _ := Q1q
  clear hc1 S1q Q1q
  obtain ⟨⟨x2, y2, s2⟩, h2⟩ : ∃ r, r = order2 ltFl d y1 c s1 := ⟨_, rfl⟩
  have l2 := order2_in ltFl d s1 l1.2 hcn
  have t2 := order2_count ltFl d y1 c s1
  have hc2 := order2_x w0 blk off cap n d w11 S1.out hn hsz y1 c sb s1 l1.2 hcn (by omega) Q1.out
  rw [← h2] at l2 t2 hc2
  dsimp only at l2 t2 hc2
  have E2 : Hid (order2 ltFl d y1 c s1 = (x2, y2, s2)) := h2.symm
  clear h2
  go_wp2_with fail
  refine hc2.mono ?_
  rintro e w12 ⟨rfl, S2q, Q2q⟩
  have S2 : Aside _ := S2q
  have Q2 : Aside _ := Q2q
  clear hc2 S2q Q2q
  obtain ⟨⟨x3, y3, s3⟩, h3⟩ : ∃ r, r = order2 ltFl d x1 x2 s2 := ⟨_, rfl⟩
  have l3 := order2_in ltFl d s2 l1.1 l2.1
  have t3 := order2_count ltFl d x1 x2 s2
  have hc3 := order2_x w0 blk off cap n d w12 S2.out hn hsz x1 x2 sb s2 l1.1 l2.1 (by omega) Q2.out
  rw [← h3] at l3 t3 hc3
  dsimp only at l3 t3 hc3
  have E3 : Hid (order2 ltFl d x1 x2 s2 = (x3, y3, s3)) := h3.symm
  clear h3
  go_wp2_with fail
  refine hc3.mono ?_
  rintro e w13 ⟨rfl, S3q, Q3q⟩
  have S3 : Aside _ := S3q
  have Q3 : Aside _ := Q3q
  clear hc3 S3q Q3q
  go_wp2_with fail
  go_ret
  have HE : median ltFl d a b c s = (y3, s3) := by unfold median; rw [E1.out]; dsimp only; rw [E2.out]; dsimp only; rw [E3.out]
  rw [HE]
  exact ⟨rfl, S3.out, Q3.out⟩
end Go.Proofs.Ytglgmkikegbchaa
