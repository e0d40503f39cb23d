/- FnSearch. -/
import Derived.Test.YtglgmkikegbchaaaSearch
import Derived.Test.YtglgmkikegbchaaJoin
namespace Go.Proofs.Ytglgmkikegbchaa
open Go.ChangeShapes Go.WideShapes Go.ChangeAt Go.RowKit Go.Deep Go.Sort

theorem most_calls (w : World) : Calls Try.prog 19 #[] w fun e w' => e = .returned (.int .i64 2000) ∧ w' = w := by
  go_enter Try.func19, Try.ntmps19
  go_wp2
  go_ret
  exact ⟨rfl, rfl⟩

set_option maxHeartbeats 2000000 in
set_option maxRecDepth 1000000 in
theorem fnSearch_walk (a : Option Addr) (cap n : Nat) (d : Array Bool) (w : World) (h : RdB w a d) (hn : d.size = n) :
    Calls Try.prog 5 #[.slice a n cap] w fun e w' => e = .returned (.bool true) ∧ Below w.heap.size w w' := by
  by_cases h1 : 2147483647 < n
  · have h1z : (2147483647 : Int) < (n : Int) := by omega
    go_enter Try.func5, Try.ntmps5
    go_wp2
    go_ret
    exact ⟨rfl, Below.refl _ _⟩
  · have h1z : ¬ (2147483647 : Int) < (n : Int) := by omega
    by_cases h2 : 2000 < n
    · have h2z : (2000 : Int) < (n : Int) := by omega
      go_enter Try.func5, Try.ntmps5
      go_wp2_with fail
      refine (most_calls _).mono ?_
      rintro e w' ⟨rfl, rfl⟩
      go_wp2_with fail
      refine (works_calls _).mono ?_
      rintro e w' ⟨rfl, hb⟩
      go_wp2_with fail
      go_ret
      exact ⟨rfl, hb⟩
    · have h2z : ¬ (2000 : Int) < (n : Int) := by omega
      have HS := implSearch_calls a cap n d w h hn (by omega)
      have H : Aside (RdB w a d) := h
      have N : Aside (d.size = n) := hn
      clear h hn
      go_enter Try.func5, Try.ntmps5
      go_wp2_with fail
      refine (most_calls _).mono ?_
      rintro e w' ⟨rfl, rfl⟩
      go_wp2_with fail
      refine HS.mono ?_
      rintro e w1 ⟨k, rfl, ⟨hk1, hk2, hk3⟩, hb⟩
      have RB : Aside (RdB w1 a d) := H.out.below hb (Nat.le_refl _)
      have B : Aside (Below w'.heap.size w' w1) := hb
      have hkn : k ≤ n := by rw [← N.out]; exact hk1
      have hknz : (k : Int) ≤ (n : Int) := by omega
      have hk0z : (0 : Int) ≤ (k : Int) := by omega
      clear hb HS H
      rw [N.out] at hk2 hk1
      have F : Aside (∀ W, Below w'.heap.size w' W → (Ending.returned (Value.bool true) = Ending.returned (.bool true) ∧ Below w'.heap.size w' W)) := fun W hW => ⟨rfl, hW⟩
      by_cases e1 : k = n
      · have e1z : (k : Int) = (n : Int) := by omega
        by_cases e2 : k = 0
        · have e2z : (k : Int) = 0 := by omega
          clear hk2 hk3 RB
          go_wp2_with fail
          refine (works_calls _).mono ?_
          rintro e w2 ⟨rfl, hb⟩
          go_wp2_with fail
          go_ret
          exact ⟨rfl, B.out.trans (hb.mono B.out.size)⟩
        · subst e1
          have e2z : ¬ (k : Int) = 0 := by omega
          obtain ⟨blk, off, rfl, _, hc⟩ := RB.out (by rw [N.out]; omega)
          have c1 := hc (k - 1) (by rw [N.out]; omega)
          rw [hk3 (by omega)] at c1
          have w1z : IntKind.i64.wrap ((k : Int) - 1) = (k : Int) - 1 := by rw [IntKind.wrap_i64]; omega
          clear hk2 hk3 RB hc e1z
          go_wp2_with fail
          refine (works_calls _).mono ?_
          rintro e w2 ⟨rfl, hb⟩
          go_wp2_with fail
          go_ret
          exact ⟨rfl, B.out.trans (hb.mono B.out.size)⟩
      · have hkl : k < n := by omega
        have e1z : ¬ (k : Int) = (n : Int) := by omega
        obtain ⟨blk, off, rfl, _, hc⟩ := RB.out (by rw [N.out]; omega)
        have c0 := hc k (by rw [N.out]; omega)
        rw [hk2 hkl] at c0
        have l0z : (k : Int) < (n : Int) := by omega
        by_cases e2 : k = 0
        · have e2z : (k : Int) = 0 := by omega
          subst e2
          rw [Nat.add_zero] at c0
          have e1y : ¬ (0 : Int) = (n : Int) := by omega
          clear hk2 hk3 RB hc e1z
          go_wp2_with fail
          refine (works_calls _).mono ?_
          rintro e w2 ⟨rfl, hb⟩
          go_wp2_with fail
          go_ret
          exact ⟨rfl, B.out.trans (hb.mono B.out.size)⟩
        · obtain ⟨kp, rfl⟩ : ∃ kp, k = kp + 1 := ⟨k - 1, by omega⟩
          have e2z : ¬ (kp : Int) + 1 = 0 := by omega
          have c1 := hc kp (by rw [N.out]; omega)
          rw [show d[kp]! = false from hk3 (by omega)] at c1
          have w1z : IntKind.i64.wrap ((kp : Int) + 1 - 1) = (kp : Int) := by rw [IntKind.wrap_i64]; omega
          have l1z : (kp : Int) < (n : Int) := by omega
          have e1y : ¬ (kp : Int) + 1 = (n : Int) := by omega
          have l0y : (kp : Int) + 1 < (n : Int) := by omega
          have l0n : (0 : Int) ≤ (kp : Int) + 1 := by omega
          have t0 : ((kp : Int) + 1).toNat = kp + 1 := by omega
          clear hk2 hk3 RB hc e1z
          go_wp2_with fail
          refine (works_calls _).mono ?_
          rintro e w2 ⟨rfl, hb⟩
          go_wp2_with fail
          go_ret
          exact ⟨rfl, B.out.trans (hb.mono B.out.size)⟩

theorem open_bools {H : Type} {enc : TypeId × Value → H} {W : World} {fuel : Nat} {a : Option Addr} {len cap : Nat} {x : DataW H × List MemPlace} (h : DataW.trod enc Try.prog W 0 (fun _ => true) true fuel 38 [.slice a len cap] = some x) :
    ∃ d : Array Bool, d.size = len ∧ RdB W a d := by
  rcases open_slice1 Try.underlying38 (by kernel_rfl) h with ⟨hc, _⟩ | ⟨a', len', cap', m, n, V, D, Pl, hc, _, hl, hm, hmm, _, hall⟩
  · simp only [List.cons.injEq, and_true, Value.slice.injEq] at hc
    obtain ⟨rfl, rfl, rfl⟩ := hc
    exact ⟨#[], rfl, fun h => absurd h (by simp)⟩
  · simp only [List.cons.injEq, and_true, Value.slice.injEq] at hc
    obtain ⟨rfl, rfl, rfl⟩ := hc
    simp only [if_true] at hmm
    subst hmm
    have hb : ∀ i, i < m → ∃ x : Bool, V i = .bool x := fun i hi => by
      obtain ⟨x, h1, _⟩ := DataW.trod_bool Try.underlying4 (hall i hi).2
      simp only [List.cons.injEq, and_true] at h1
      exact ⟨x, h1⟩
    let X : Nat → Bool := fun i => if h : i < m then (hb i h).choose else false
    have hX : ∀ i, i < len → V i = .bool (X i) := fun i hi => by
      have hi' : i < m := by omega
      simp only [X, dif_pos hi']
      exact (hb i hi').choose_spec
    let d : Array Bool := ((List.range len).map X).toArray
    have hd : ∀ i, i < len → d[i]! = X i := fun i hi => by
      have : d[i]? = some (X i) := by simp [d, hi]
      rw [getElem!_def, this]
    refine ⟨d, by simp [d], fun h0 => ?_⟩
    have h0' : 0 < len := by simpa [d] using h0
    obtain ⟨b, off, spot⟩ := a'
    have hspot : spot = none := by simpa [Addr.add] using World.cell?_spot (hall 0 (by omega)).1
    subst hspot
    refine ⟨b, off, rfl, World.block_lt_of_cell? _ _ (hall 0 (by omega)).1, fun i hi => ?_⟩
    have hi' : i < len := by simpa [d] using hi
    rw [hd i hi', ← hX i hi', ← Go.WideShapes.add_plain]
    exact (hall i (by omega)).1

set_option maxRecDepth 100000 in
theorem fnSearch_lifted (os : Os) (started : os.Started) (H : Type) (enc : TypeId × Value → H) :
    ReturnsInHanded {} Try.checked os 5 .any (Rows.fnSearchSpec.pre6 enc Try.prog Try.f5 Rows.fnSearchRow.domain false) (Rows.fnSearchSpec.post enc Try.prog Try.f5 false true false false) := by
  refine returnsInHanded_of_change (C := Try.checked) own started (by kernel_rfl) Try.func5
    (ChangeSpec.witness6 (enc := enc) (C := Try.checked) false ⟨#[], #[.slice none 0 0], []⟩ 8 (by kernel_rfl) (by kernel_rfl) (by kernel_rfl) (by kernel_rfl)) ?_
  intro W base args ds gs before hval0 hW _ _
  have hval : ∀ (j : Nat) t v, Try.f5.params[j]? = some t → args[j]? = some v → Value.okWide Try.prog W .any base t v := hval0
  have hW' := hW
  obtain ⟨p, q, hA0, hV, rfl, _, _⟩ := hW
  have hA : DataW.TrodAll enc Try.prog W 0 (fun _ => true) true Try.f5.params.toList args.toList ds p := hA0
  rw [Try.params5] at hA hval
  obtain ⟨v0, d0, rfl, rfl, h0⟩ := trodAll_one hA
  obtain ⟨a, len, cap, rfl⟩ := okWide_slice Try.underlying38 (hval 0 38 v0 rfl rfl)
  obtain ⟨fuel, hf⟩ := h0
  obtain ⟨d, hd, hr⟩ := open_bools hf
  refine (fnSearch_walk a cap len d W hr hd).mono fun e W' ⟨he, hB⟩ => ?_
  subst he
  exact ⟨_, rfl, post_true hW' rfl (by rw [Try.params5]; decide) rfl rfl hB⟩

theorem fnSearch_over : Rows.fnSearchRow.holds Try.pinned (OpenSpec.ofChange Rows.fnSearchSpec) :=
  OpenClaim.holds_of_wide 5 Try.f5 rfl rfl rfl rfl rfl rfl rfl ⟨rfl, rfl, rfl, rfl, rfl⟩ rfl rfl rfl rfl rfl (by kernel_rfl) Try.func5 (by kernel_rfl)
    (of_decide_eq_true (by kernel_rfl)) (by unfold Func.isWrapper; first | (rw [if_pos (by decide +kernel)]; kernel_rfl) | (rw [if_neg (by decide +kernel)]; exact ⟨rfl, rfl⟩))
    (fun os started H enc _ => fnSearch_lifted os started H enc)

theorem fnSearch_proved : Rows.FnSearchSaid := fnSearch_over
end Go.Proofs.Ytglgmkikegbchaa
