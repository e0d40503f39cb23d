/- order2: the text by a function that compares, over elements of two cells. -/
import Derived.Test.YtglgmkikegbchaaWc0
import Derived.Test.YtglgmkikegbchaaPb
import Derived.Test.YtglgmkikegbchaaKb
import Derived.Test.YtglgmkikegbchaaPd
namespace Go.Proofs.Ytglgmkikegbchaa
open Go.RowKit Go.Sort

set_option maxHeartbeats 4000000 in
set_option maxRecDepth 1000000 in
theorem order2_c (O : Value) (cf : It → It → Int) (hC : CmpC O cf) (w0 : World) (blk off cap n : Nat) (d : Array It) (w : World) (S : St2 w0 blk off d w) (hn : d.size = n) (hsz : n < 4611686018427387904) (a b sb s : Nat) (ha : a < n) (hb : b < n) (hs : s < 1000) (Q : Box1 w0 w blk sb (.int .i64 s)) :
    Calls Try.prog 157 #[.slice (some ⟨blk, off, none⟩) n cap, .int .i64 a, .int .i64 b, .pointer (some ⟨sb, 0, none⟩), .func (.func 36) #[O] #[]] w fun e w' =>
      e = .returned (.tuple #[.int .i64 (order2 (ltC cf) d a b s).1, .int .i64 (order2 (ltC cf) d a b s).2.1]) ∧ St2 w0 blk off d w' ∧ Box1 w0 w' blk sb (.int .i64 (order2 (ltC cf) d a b s).2.2) := by
  have Q0 : Aside _ := Q
  clear Q
  have hsz' := hsz
  have mixed : Try.prog.follows .mixedOrders = true := by kernel_rfl
  have HC : Aside (CmpC O cf) := hC
  have S0 : Aside (St2 w0 blk off d w) := S
  clear S
  go_enter Try.func157, Try.ntmps157
  have bi1 : (b : Int) < (n : Int) := by omega
  have ri1 : IntKind.i64.wrap ((b : Int)) = (b : Int) := by rw [IntKind.wrap_i64]; omega
  have bj1 : (a : Int) < (n : Int) := by omega
  have rj1 : IntKind.i64.wrap ((a : Int)) = (a : Int) := by rw [IntKind.wrap_i64]; omega
  obtain ⟨⟨x1, x2⟩, hx⟩ : ∃ x : It, x = d[b]! := ⟨_, rfl⟩
  obtain ⟨⟨y1, y2⟩, hy⟩ : ∃ y : It, y = d[a]! := ⟨_, rfl⟩
  have c11 := fun n' os => (S0.out.cells (i := b) (by omega) hx n' os).1
  have c12 := fun n' os => (S0.out.cells (i := b) (by omega) hx n' os).2
  have c21 := fun n' os => (S0.out.cells (i := a) (by omega) hy n' os).1
  have c22 := fun n' os => (S0.out.cells (i := a) (by omega) hy n' os).2
  have hcc := CmpC.out HC (x1, x2) (y1, y2)
  dsimp only [vIt] at c11 c12 c21 c22 hcc
  obtain ⟨c, hc⟩ : ∃ c, c = cf (x1, x2) (y1, y2) := ⟨_, rfl⟩
  rw [← hc] at hcc
  have HV : Aside (ltC cf d[b]! d[a]! = decide (c < 0)) := by show ltC cf _ _ = _; rw [← hx, ← hy, hc]; rfl
  clear hx hy hc
  by_cases hcl : c < 0
  · have hcd : decide (c < 0) = true := decide_eq_true hcl
    replace HV := HV.out.trans hcd
    have HV' : Aside _ := HV
    clear HV
    go_wp2_with fail
    go_quiet_grown (first | (go_at_call 36; refine Calls.grown_of (hcc _)))
    have Q2 : Aside _ := Q0.out.grow nq osq
    have S2 : Aside _ := S0.out.grow nq osq
    clear c11 c12 c21 c22 hcc
    generalize grow (w.drewN nq) osq = w2 at S2 Q2 ⊢
    clear nq osq
    clear bi1 ri1 bj1 rj1
    have qc := Q2.out.cell
    have qf := Q2.out.frozen
    have S3 : Aside _ := S2.out.aside Q2.out (.int .i64 ((s : Int) + 1))
    have Q3 : Aside _ := Q2.out.set (.int .i64 ((s : Int) + 1))
    go_wp2_with fail
    clear qc qf
    generalize w2.setCell ⟨sb, 0, none⟩ (.int .i64 ((s : Int) + 1)) = w3 at S3 Q3 ⊢
    clear S2 Q2
    (try simp only [Exit.inBlock, Exit.then]); refine bodyPost_ret (results_tmp2 rfl _ _ _) rfl ?_
    have HE : order2 (ltC cf) d a b s = (b, a, s + 1) := by unfold order2; rw [if_pos HV'.out]
    rw [HE]
    exact ⟨rfl, S3.out, Q3.out⟩
  · have hcd : decide (c < 0) = false := decide_eq_false hcl
    replace HV := HV.out.trans hcd
    have HV' : Aside _ := HV
    clear HV
    go_wp2_with fail
    go_quiet_grown (first | (go_at_call 36; refine Calls.grown_of (hcc _)))
    have Q2 : Aside _ := Q0.out.grow nq osq
    have S2 : Aside _ := S0.out.grow nq osq
    clear c11 c12 c21 c22 hcc
    generalize grow (w.drewN nq) osq = w2 at S2 Q2 ⊢
    clear nq osq
    clear bi1 ri1 bj1 rj1
    go_wp2_with fail
    (try simp only [Exit.inBlock, Exit.then]); refine bodyPost_ret (results_tmp2 rfl _ _ _) rfl ?_
    have HE : order2 (ltC cf) d a b s = (a, b, s) := by unfold order2; rw [if_neg (by rw [HV'.out]; exact Bool.false_ne_true)]
    rw [HE]
    exact ⟨rfl, S2.out, Q2.out⟩
end Go.Proofs.Ytglgmkikegbchaa
