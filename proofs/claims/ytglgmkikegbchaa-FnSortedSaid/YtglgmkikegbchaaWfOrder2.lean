/- order2: the text over an Interface. -/
import Derived.Test.YtglgmkikegbchaaWf0
import Derived.Test.YtglgmkikegbchaaPb
import Derived.Test.YtglgmkikegbchaaKb
import Derived.Test.YtglgmkikegbchaaPd
namespace Go.Proofs.Ytglgmkikegbchaa
open Go.RowKit Go.Sort

set_option maxHeartbeats 4000000 in
set_option maxRecDepth 1000000 in
theorem order2_f (T : TypeId) (rv : Value) (lt : It → It → Bool) (gl gs : Nat) (rl rs : Value) (w0 : World) (blk off n : Nat) (F : FaceOk T rv lt w0 blk off n gl gs rl rs) (d : Array It) (w : World) (S : St2 w0 blk off d w) (hn : d.size = n) (hsz : n < 4611686018427387904) (a b sb s : Nat) (ha : a < n) (hb : b < n) (hs : s < 1000) (Q : Box1 w0 w blk sb (.int .i64 s)) :
    Calls Try.prog 159 #[.iface T rv, .int .i64 a, .int .i64 b, .pointer (some ⟨sb, 0, none⟩)] w fun e w' =>
      e = .returned (.tuple #[.int .i64 (order2 lt d a b s).1, .int .i64 (order2 lt d a b s).2.1]) ∧ St2 w0 blk off d w' ∧ Box1 w0 w' blk sb (.int .i64 (order2 lt d a b s).2.2) := by
  have Q0 : Aside _ := Q
  clear Q
  have hsz' := hsz
  have eL := F.eL
  have eS := F.eS
  have S0 : Aside (St2 w0 blk off d w) := S
  clear S
  go_enter Try.func159, Try.ntmps159
  have mL := F.methL _ w S0.out
  have mS := F.methS _ w S0.out
  have hl := F.less d w (b) (a) (by omega) S0.out (by omega) (by omega)
  obtain ⟨c, hc⟩ : ∃ c, c = lt d[b]! d[a]! := ⟨_, rfl⟩
  rw [← hc] at hl
  have HV : Aside (lt d[b]! d[a]! = c) := hc.symm
  clear hc
  cases c with
  | true =>
    have HV' : Aside _ := HV
    clear HV
    go_wp2_with fail
    refine hl.mono ?_
    rintro e w' ⟨rfl, q, os, rfl⟩
    have Q2 : Aside _ := Q0.out.grow q os
    have S2 : Aside _ := S0.out.grow q os
    clear mL mS hl
    generalize grow (w.drewN q) os = w2 at S2 Q2 ⊢
    clear q os
    have mL := F.methL _ w2 S2.out
    have mS := F.methS _ w2 S2.out
    clear mL mS
    have qc := Q2.out.cell
    have qf := Q2.out.frozen
    have S3 : Aside _ := S2.out.aside Q2.out (.int .i64 ((s : Int) + 1))
    have Q3 : Aside _ := Q2.out.set (.int .i64 ((s : Int) + 1))
    go_wp2_with fail
    clear qc qf
    generalize w2.setCell ⟨sb, 0, none⟩ (.int .i64 ((s : Int) + 1)) = w3 at S3 Q3 ⊢
    clear S2 Q2
    (try simp only [Exit.inBlock, Exit.then]); refine bodyPost_ret (results_tmp2 rfl _ _ _) rfl ?_
    have HE : order2 lt d a b s = (b, a, s + 1) := by unfold order2; rw [if_pos HV'.out]
    rw [HE]
    exact ⟨rfl, S3.out, Q3.out⟩
  | false =>
    have HV' : Aside _ := HV
    clear HV
    go_wp2_with fail
    refine hl.mono ?_
    rintro e w' ⟨rfl, q, os, rfl⟩
    have Q2 : Aside _ := Q0.out.grow q os
    have S2 : Aside _ := S0.out.grow q os
    clear mL mS hl
    generalize grow (w.drewN q) os = w2 at S2 Q2 ⊢
    clear q os
    have mL := F.methL _ w2 S2.out
    have mS := F.methS _ w2 S2.out
    clear mL mS
    go_wp2_with fail
    (try simp only [Exit.inBlock, Exit.then]); refine bodyPost_ret (results_tmp2 rfl _ _ _) rfl ?_
    have HE : order2 lt d a b s = (a, b, s) := by unfold order2; rw [if_neg (by rw [HV'.out]; exact Bool.false_ne_true)]
    rw [HE]
    exact ⟨rfl, S2.out, Q2.out⟩
end Go.Proofs.Ytglgmkikegbchaa
