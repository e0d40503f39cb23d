/- FnIsSorted (printed by gen/issorted.py). -/
import Derived.Test.YtglgmkikegbchaaaIsSorted
import Derived.Test.YtglgmkikegbchaaBase
import Derived.Test.YtglgmkikegbchaaWorks
import Derived.Test.YtglgmkikegbchaaJoin
namespace Go.Proofs.Ytglgmkikegbchaa
open Go.ChangeShapes Go.WideShapes Go.ChangeAt Go.RowKit Go.Deep Go.Sort

set_option maxHeartbeats 4000000 in
set_option maxRecDepth 1000000 in
theorem fnIsSorted_walk (bi : Bool) (a : Option Addr) (cap : Nat) (d : Array It) (o : Ordr) (w : World) (h : Rd2 w a d) :
    Calls Try.prog 6 #[.bool bi, .slice a d.size cap, vOrd o] w fun e w' => e = .returned (.bool true) ∧ Below w.heap.size w w' := by
  obtain ⟨R, hR⟩ : ∃ R, R = ascB (ltC (cfO o)) d := ⟨_, rfl⟩
  obtain ⟨F, hF⟩ : ∃ F, F = fitsB d.size o := ⟨_, rfl⟩
  have hz : F = true → d.size ≤ 2000 ∧ 0 ≤ o.shift ∧ o.shift < 64 := fun e => by
    rw [e] at hF
    unfold fitsB at hF
    simp only [Bool.true_eq, Bool.and_eq_true, decide_eq_true_eq] at hF
    exact ⟨hF.1.1.1.1, hF.1.2, hF.2⟩
  have fits := fun W => fits_calls a cap d.size o W
  rw [← hF] at fits
  have WS0 : Aside (F = true → ∀ W, Rd2 W a d → Calls Try.prog 21 #[.int .i64 0, .slice a d.size cap, vOrd o] W fun e w' => e = .returned (.bool R) ∧ Below W.heap.size W w') := fun e W hW => by
    rw [hR]; exact sorted_0 a cap d.size d o W hW rfl (hz e).1 (hz e).2.1 (hz e).2.2
  have WS1 : Aside (F = true → ∀ W, Rd2 W a d → Calls Try.prog 21 #[.int .i64 1, .slice a d.size cap, vOrd o] W fun e w' => e = .returned (.bool R) ∧ Below W.heap.size W w') := fun e W hW => by
    rw [hR]; exact sorted_1 a cap d.size d o W hW rfl (hz e).1 (hz e).2.1 (hz e).2.2
  have WA : Aside (F = true → ∀ W, Rd2 W a d → Calls Try.prog 16 #[.slice a d.size cap, vOrd o] W fun e w' => e = .returned (.bool R) ∧ Below W.heap.size W w') := fun e W hW => by
    rw [hR]; exact asc_calls a cap d.size d o W hW rfl (by have := (hz e).1; omega) (hz e).2.1 (hz e).2.2
  have R0 : Aside (Rd2 w a d) := h
  obtain ⟨n, hn⟩ : ∃ n, n = d.size := ⟨_, rfl⟩
  rw [← hn] at fits WS0 WS1 WA ⊢
  clear hR hF hz h hn
  obtain ⟨k, s, m0, m1, m2⟩ := o
  have B0 : Aside (Below w.heap.size w (w.alloc (.cells #[.int .i64 k, .int .i64 s, .int .u64 m0, .int .u64 m1, .int .u64 m2] 26))) := below_alloc _ _
  have K0 : Aside (BoxO (w.alloc (.cells #[.int .i64 k, .int .i64 s, .int .u64 m0, .int .u64 m1, .int .u64 m2] 26)) w.heap.size ⟨k, s, m0, m1, m2⟩) := boxO_new w ⟨k, s, m0, m1, m2⟩ _
  by_cases h1 : 2147483647 < n
  · have h1z : (2147483647 : Int) < (n : Int) := by omega
    clear fits
    go_enter Try.func6, Try.ntmps6
    go_wp2_with fail
    go_ret
    exact ⟨rfl, B0.out⟩
  · have h1z : ¬ (2147483647 : Int) < (n : Int) := by omega
    go_enter Try.func6, Try.ntmps6
    go_wp2_with fail
    refine (fits _).mono ?_
    rintro e w1 ⟨rfl, hb⟩
    have B1 : Aside (Below w.heap.size w w1) := Below.next B0.out hb
    have K1 : Aside (BoxO w1 w.heap.size ⟨k, s, m0, m1, m2⟩) := K0.out.keep hb
    clear hb K0 B0 fits
    cases F with
    | false =>
      go_wp2_with fail
      refine (works_calls _).mono ?_
      rintro e w9 ⟨rfl, hb⟩
      go_wp2_with fail
      go_ret
      exact ⟨rfl, Below.next B1.out hb⟩
    | true =>
      obtain ⟨_, k0, k1, k2, k3, k4⟩ := K1.out
      have p0 := cell_regrown k0
      have p1 := cell_regrown k1
      have p2 := cell_regrown k2
      have p3 := cell_regrown k3
      have p4 := cell_regrown k4
      dsimp only at p0 p1 p2 p3 p4
      cases bi with
      | true =>
        have C1 : ∀ p : Regrown, Calls Try.prog 21 #[.int .i64 1, .slice a n cap, .agg #[.int .i64 k, .int .i64 s, .int .u64 m0, .int .u64 m1, .int .u64 m2]] (grow (redrawn w1 p.d) p.os) fun e w'' => e = .returned (.bool R) ∧ ∃ p : Regrown, w'' = grow (redrawn w1 p.d) p.os := fun p => Calls.regrown_of (WS1.out (by trivial) _ (R0.out.keep (Below.next B1.out (below_regrown _ _ _))))
        have C2 : ∀ p : Regrown, Calls Try.prog 16 #[.slice a n cap, .agg #[.int .i64 k, .int .i64 s, .int .u64 m0, .int .u64 m1, .int .u64 m2]] (grow (redrawn w1 p.d) p.os) fun e w'' => e = .returned (.bool R) ∧ ∃ p : Regrown, w'' = grow (redrawn w1 p.d) p.os := fun p => Calls.regrown_of (WA.out (by trivial) _ (R0.out.keep (Below.next B1.out (below_regrown _ _ _))))
        have C3 : ∀ p : Regrown, Calls Try.prog 12 #[] (grow (redrawn w1 p.d) p.os) fun e w'' => e = .returned (.bool true) ∧ ∃ p : Regrown, w'' = grow (redrawn w1 p.d) p.os := fun p => Calls.regrown_of (works_calls _)
        have mixed : Try.prog.follows .mixedOrders = true := by kernel_rfl
        clear WS0 WS1 WA k0 k1 k2 k3 k4 K1
        go_wp2_with fail
        refine wp_region_quiet_below (by assumption) (by kernel_rfl) ?_
        repeat' (quiet_step (first | (with_reducible exact C1 _) | (with_reducible exact C2 _) | (with_reducible exact C3 _)))
        all_goals
          refine wpQuiet_nil ?_
          intro _ hw'
          obtain ⟨⟨nq, osq⟩, hw''⟩ := hw'
          subst hw''
        clear C1 C2 C3 p0 p1 p2 p3 p4
        go_wp2_with fail
        go_ret
        exact ⟨rfl, Below.next B1.out (below_regrown _ _ _)⟩
      | false =>
        have C1 : ∀ p : Regrown, Calls Try.prog 21 #[.int .i64 0, .slice a n cap, .agg #[.int .i64 k, .int .i64 s, .int .u64 m0, .int .u64 m1, .int .u64 m2]] (grow (redrawn w1 p.d) p.os) fun e w'' => e = .returned (.bool R) ∧ ∃ p : Regrown, w'' = grow (redrawn w1 p.d) p.os := fun p => Calls.regrown_of (WS0.out (by trivial) _ (R0.out.keep (Below.next B1.out (below_regrown _ _ _))))
        have C2 : ∀ p : Regrown, Calls Try.prog 16 #[.slice a n cap, .agg #[.int .i64 k, .int .i64 s, .int .u64 m0, .int .u64 m1, .int .u64 m2]] (grow (redrawn w1 p.d) p.os) fun e w'' => e = .returned (.bool R) ∧ ∃ p : Regrown, w'' = grow (redrawn w1 p.d) p.os := fun p => Calls.regrown_of (WA.out (by trivial) _ (R0.out.keep (Below.next B1.out (below_regrown _ _ _))))
        have C3 : ∀ p : Regrown, Calls Try.prog 12 #[] (grow (redrawn w1 p.d) p.os) fun e w'' => e = .returned (.bool true) ∧ ∃ p : Regrown, w'' = grow (redrawn w1 p.d) p.os := fun p => Calls.regrown_of (works_calls _)
        have mixed : Try.prog.follows .mixedOrders = true := by kernel_rfl
        clear WS0 WS1 WA k0 k1 k2 k3 k4 K1
        go_wp2_with fail
        refine wp_region_quiet_below (by assumption) (by kernel_rfl) ?_
        repeat' (quiet_step (first | (with_reducible exact C1 _) | (with_reducible exact C2 _) | (with_reducible exact C3 _)))
        all_goals
          refine wpQuiet_nil ?_
          intro _ hw'
          obtain ⟨⟨nq, osq⟩, hw''⟩ := hw'
          subst hw''
        clear C1 C2 C3 p0 p1 p2 p3 p4
        go_wp2_with fail
        go_ret
        exact ⟨rfl, Below.next B1.out (below_regrown _ _ _)⟩

set_option maxRecDepth 100000 in
theorem fnIsSorted_lifted (os : Os) (started : os.Started) (H : Type) (enc : TypeId × Value → H) :
    ReturnsInHanded {} Try.checked os 6 .any (Rows.fnIsSortedSpec.pre6 enc Try.prog Try.f6 Rows.fnIsSortedRow.domain false) (Rows.fnIsSortedSpec.post enc Try.prog Try.f6 false true false false) := by
  refine returnsInHanded_of_change (C := Try.checked) own started (by kernel_rfl) Try.func6
    (ChangeSpec.witness6 (enc := enc) (C := Try.checked) false ⟨#[], #[.bool false, .slice none 0 0, .agg #[.int .i64 0, .int .i64 0, .int .u64 0, .int .u64 0, .int .u64 0]], []⟩ 8 (by kernel_rfl) (by kernel_rfl) (by kernel_rfl) (by kernel_rfl)) ?_
  intro W base args ds gs before hval0 hW _ _
  have hval : ∀ (j : Nat) t v, Try.f6.params[j]? = some t → args[j]? = some v → Value.okWide Try.prog W .any base t v := hval0
  have hW' := hW
  obtain ⟨p, q, hA0, hV, rfl, _, _⟩ := hW
  have hA : DataW.TrodAll enc Try.prog W 0 (fun _ => true) true Try.f6.params.toList args.toList ds p := hA0
  rw [Try.params6] at hA hval
  obtain ⟨v0, vs0, d0, ds0, p0, q0, hargs, rfl, rfl, h0, r0⟩ := trodAll_cons hA
  obtain ⟨v1, vs1, d1, ds1, p1, q1, rfl, rfl, rfl, h1, r1⟩ := trodAll_cons r0
  obtain ⟨v2, vs2, d2, ds2, p2, q2, rfl, rfl, rfl, h2, r2⟩ := trodAll_cons r1
  obtain ⟨rfl, rfl, rfl⟩ := trodAll_nil r2
  obtain rfl : args = #[v0, v1, v2] := by cases args; simp_all
  obtain ⟨bi, rfl⟩ := okWide_bool Try.underlying4 (hval 0 4 v0 rfl rfl)
  obtain ⟨a, len, cap, rfl⟩ := okWide_slice Try.underlying22 (hval 1 22 v1 rfl rfl)
  obtain ⟨o, rfl, _⟩ := open_order (hval 2 26 v2 rfl rfl)
  obtain ⟨fuel, hf⟩ := h1
  obtain ⟨d, rfl, hArg, _⟩ := open_items hf
  refine (fnIsSorted_walk bi a cap d o W hArg).mono fun e W' ⟨he, hB⟩ => ?_
  subst he
  exact ⟨_, rfl, post_true hW' rfl (by rw [Try.params6]; decide) rfl rfl hB⟩

theorem fnIsSorted_over : Rows.fnIsSortedRow.holds Try.pinned (OpenSpec.ofChange Rows.fnIsSortedSpec) :=
  OpenClaim.holds_of_wide 6 Try.f6 rfl rfl rfl rfl rfl rfl rfl ⟨rfl, rfl, rfl, rfl, rfl⟩ rfl rfl rfl rfl rfl (by kernel_rfl) Try.func6 (by kernel_rfl)
    (of_decide_eq_true (by kernel_rfl)) (by unfold Func.isWrapper; first | (rw [if_pos (by decide +kernel)]; kernel_rfl) | (rw [if_neg (by decide +kernel)]; exact ⟨rfl, rfl⟩))
    (fun os started H enc _ => fnIsSorted_lifted os started H enc)

theorem fnIsSorted_proved : Rows.FnIsSortedSaid := fnIsSorted_over
end Go.Proofs.Ytglgmkikegbchaa
