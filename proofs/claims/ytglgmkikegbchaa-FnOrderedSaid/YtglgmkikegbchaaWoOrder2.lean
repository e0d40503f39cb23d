/- order2: the text over the keys alone. -/
import Derived.Test.YtglgmkikegbchaaWo0
import Derived.Test.YtglgmkikegbchaaPb
import Derived.Test.YtglgmkikegbchaaKb
import Derived.Test.YtglgmkikegbchaaPd
namespace Go.Proofs.Ytglgmkikegbchaa
open Go.RowKit Go.Sort

set_option maxHeartbeats 4000000 in
set_option maxRecDepth 1000000 in
theorem order2_o (w0 : World) (blk off cap n : Nat) (d : Array Int) (w : World) (S : St1 e64 w0 blk off d w) (hn : d.size = n) (hsz : n < 4611686018427387904) (a b sb s : Nat) (ha : a < n) (hb : b < n) (hs : s < 1000) (Q : Box1 w0 w blk sb (.int .i64 s)) :
    Calls Try.prog 163 #[.slice (some ⟨blk, off, none⟩) n cap, .int .i64 a, .int .i64 b, .pointer (some ⟨sb, 0, none⟩)] w fun e w' =>
      e = .returned (.tuple #[.int .i64 (order2 ltInt d a b s).1, .int .i64 (order2 ltInt d a b s).2.1]) ∧ St1 e64 w0 blk off d w' ∧ Box1 w0 w' blk sb (.int .i64 (order2 ltInt d a b s).2.2) := by
  have Q0 : Aside _ := Q
  clear Q
  have hsz' := hsz
  have S0 : Aside (St1 e64 w0 blk off d w) := S
  clear S
  go_enter Try.func163, Try.ntmps163
  have bi1 : (b : Int) < (n : Int) := by omega
  have bj1 : (a : Int) < (n : Int) := by omega
  obtain ⟨x, hx⟩ : ∃ x, x = d[b]! := ⟨_, rfl⟩
  obtain ⟨y, hy⟩ : ∃ y, y = d[a]! := ⟨_, rfl⟩
  have c1 : w.cell? ⟨blk, off + (b), none⟩ = some (.int .i64 x) := by rw [hx]; exact S0.out.cell (by omega)
  have c2 : w.cell? ⟨blk, off + (a), none⟩ = some (.int .i64 y) := by rw [hy]; exact S0.out.cell (by omega)
  have hless : ∀ c W, ltInt x y = c → Calls Try.prog 133 #[.int .i64 x, .int .i64 y] W fun e w' => e = .returned (.bool c) ∧ w' = W := fun c W hc => by rw [← hc]; exact less_o x y W
  obtain ⟨c, hc⟩ : ∃ c, c = ltInt x y := ⟨_, rfl⟩
  have HV : Aside (ltInt d[b]! d[a]! = c) := by show ltInt _ _ = _; rw [← hx, ← hy, hc]
  replace hless := fun W => hless c W hc.symm
  clear hx hy hc
  cases c with
  | true =>
    have HV' : Aside _ := HV
    clear HV
    go_wp2_with fail
    go_quiet (first | (go_at_call 133; refine Calls.quiet_of_same (hless _)))
    have Q2 : Aside _ := Q0.out.drewN nq
    have S2 : Aside _ := S0.out.drewN nq
    clear c1 c2 hless
    generalize w.drewN nq = w2 at S2 Q2 ⊢
    clear nq
    clear bi1 bj1
    have qc := Q2.out.cell
    have qf := Q2.out.frozen
    have S3 : Aside _ := S2.out.aside Q2.out (.int .i64 ((s : Int) + 1))
    have Q3 : Aside _ := Q2.out.set (.int .i64 ((s : Int) + 1))
    go_wp2_with fail
    clear qc qf
    generalize w2.setCell ⟨sb, 0, none⟩ (.int .i64 ((s : Int) + 1)) = w3 at S3 Q3 ⊢
    clear S2 Q2
    (try simp only [Exit.inBlock, Exit.then]); refine bodyPost_ret (results_tmp2 rfl _ _ _) rfl ?_
    have HE : order2 ltInt d a b s = (b, a, s + 1) := by unfold order2; rw [if_pos HV'.out]
    rw [HE]
    exact ⟨rfl, S3.out, Q3.out⟩
  | false =>
    have HV' : Aside _ := HV
    clear HV
    go_wp2_with fail
    go_quiet (first | (go_at_call 133; refine Calls.quiet_of_same (hless _)))
    have Q2 : Aside _ := Q0.out.drewN nq
    have S2 : Aside _ := S0.out.drewN nq
    clear c1 c2 hless
    generalize w.drewN nq = w2 at S2 Q2 ⊢
    clear nq
    clear bi1 bj1
    go_wp2_with fail
    (try simp only [Exit.inBlock, Exit.then]); refine bodyPost_ret (results_tmp2 rfl _ _ _) rfl ?_
    have HE : order2 ltInt d a b s = (a, b, s) := by unfold order2; rw [if_neg (by rw [HV'.out]; exact Bool.false_ne_true)]
    rw [HE]
    exact ⟨rfl, S2.out, Q2.out⟩
end Go.Proofs.Ytglgmkikegbchaa
