/- FnEnds (printed by gen/ends.py). -/
import Derived.Test.YtglgmkikegbchaaaEnds
import Derived.Test.YtglgmkikegbchaaaLeast
import Derived.Test.YtglgmkikegbchaaWorks
import Derived.Test.YtglgmkikegbchaaJoin
namespace Go.Proofs.Ytglgmkikegbchaa
open Go.ChangeShapes Go.WideShapes Go.ChangeAt Go.RowKit Go.Deep Go.Sort

theorem most_calls (w : World) : Calls Try.prog 19 #[] w fun e w' => e = .returned (.int .i64 2000) ∧ w' = w := by
  go_enter Try.func19, Try.ntmps19
  go_wp2
  go_ret
  exact ⟨rfl, rfl⟩

theorem endsF_none {d : Array Nat} {n u v : Nat} (h : EndsF d n u v) (hx : ∃ j, j < n ∧ nanF d[j]! = true) : nanF u = true ∧ nanF v = true := by
  obtain ⟨j, hj, hn⟩ := hx
  exact ⟨h.1.1 j hj hn, h.2.1 j hj hn⟩
theorem endsF_some {d : Array Nat} {n u v m1 m2 : Nat} (h : EndsF d n u v) (h0 : 0 < n) (hn : ∀ j, j < n → nanF d[j]! = false) (l1 : LeastOf muF false d n m1) (l2 : LeastOf muF true d n m2) : (ordF u m1 == some .eq) = true ∧ (ordF v m2 == some .eq) = true := by
  obtain ⟨u1, ⟨j, hj, uj⟩, u2⟩ := h.1.2 hn
  obtain ⟨v1, ⟨k, hk, vk⟩, v2⟩ := h.2.2 hn
  rcases l1.1 with e | ⟨p, hp, mp⟩
  · omega
  rcases l2.1 with e | ⟨q, hq, mq⟩
  · omega
  have a1 := u2 p hp
  have a2 := l1.2 j hj
  have a3 := v2 q hq
  have a4 := l2.2 k hk
  simp only [Bool.false_eq_true, if_false, if_true] at a2 a4
  constructor
  · rw [eqFl_mu u1 (by rw [mp]; exact hn p hp)]
    refine decide_eq_true ?_
    rw [← uj] at a2
    rw [← mp] at a1
    omega
  · rw [eqFl_mu v1 (by rw [mq]; exact hn q hq)]
    refine decide_eq_true ?_
    rw [← vk] at a4
    rw [← mq] at a3
    omega
theorem wrap_back {x : Nat} (h : x < 18446744073709551616) : IntKind.u64.wrap (toI x) = (x : Int) := by
  unfold toI
  rw [IntKind.wrap_i64, IntKind.wrap_u64]
  omega
theorem map_get (d : Array Nat) (i : Nat) (h : i < d.size) : (d.map toI)[i]! = toI d[i]! := by
  rw [getElem!_pos _ _ (by rw [Array.size_map]; exact h), getElem!_pos d i h]; simp
theorem endsI_some {d : Array Nat} {n u v m1 m2 : Nat} (h : EndsI d n u v) (hd : d.size = n) (h0 : 0 < n) (hr : ∀ i, i < n → d[i]! < 18446744073709551616) (l1 : LeastOf toI false d n m1) (l2 : LeastOf toI true d n m2) : u = m1 ∧ v = m2 := by
  obtain ⟨p, q, hu, hv, ⟨⟨j, hj, pj⟩, p2⟩, ⟨⟨k, hk, qk⟩, q2⟩⟩ := h
  rcases l1.1 with e | ⟨i1, hi1, e1⟩
  · omega
  rcases l2.1 with e | ⟨i2, hi2, e2⟩
  · omega
  have a1 := p2 i1 hi1
  have a2 := l1.2 j hj
  have a3 := q2 i2 hi2
  have a4 := l2.2 k hk
  simp only [Bool.false_eq_true, if_false, if_true] at a2 a4
  rw [map_get d _ (by omega)] at pj qk a1 a3
  rw [← pj] at a2
  rw [← qk] at a4
  rw [← e1] at a1
  rw [← e2] at a3
  have b1 := wrap_back (x := m1) (by rw [e1]; exact hr i1 hi1)
  have b2 := wrap_back (x := m2) (by rw [e2]; exact hr i2 hi2)
  rw [show p = toI m1 by omega, b1] at hu
  rw [show q = toI m2 by omega, b2] at hv
  exact ⟨by omega, by omega⟩

set_option maxHeartbeats 4000000 in
set_option maxRecDepth 1000000 in
theorem fnEnds_walk (fl : Bool) (a : Option Addr) (cap n : Nat) (d : Array Nat) (w : World) (h : RdU w a d) (hn : d.size = n) (hr : ∀ i, i < n → d[i]! < 18446744073709551616) :
    Calls Try.prog 8 #[.bool fl, .slice a n cap] w fun e w' => e = .returned (.bool true) ∧ Below w.heap.size w w' := by
  have HR : Aside (RdU w a d ∧ d.size = n ∧ ∀ i, i < n → d[i]! < 18446744073709551616) := ⟨h, hn, hr⟩
  have B0 : Aside (Below w.heap.size w w) := Below.refl _ _
  clear h hn hr
  by_cases h1 : 2147483647 < n
  · have h1z : (2147483647 : Int) < (n : Int) := by omega
    go_enter Try.func8, Try.ntmps8
    go_wp2_with fail
    go_ret
    exact ⟨rfl, B0.out⟩
  · have h1z : ¬ (2147483647 : Int) < (n : Int) := by omega
    by_cases h2 : 2000 < n
    · have h2z : (2000 : Int) < (n : Int) := by omega
      go_enter Try.func8, Try.ntmps8
      go_wp2_with fail
      refine (most_calls _).mono ?_
      rintro e wz ⟨rfl, hwz⟩
      subst wz
      go_wp2_with fail
      refine (works_calls _).mono ?_
      rintro e w9 ⟨rfl, hb⟩
      have B9 := Below.next B0.out hb
      clear hb
      go_wp2_with fail
      go_ret
      exact ⟨rfl, B9⟩
    · have h2z : ¬ (2000 : Int) < (n : Int) := by omega
      by_cases h3 : n = 0
      · subst h3
        go_enter Try.func8, Try.ntmps8
        cases fl with
        | true =>
          have hE := ends_F_none a cap w
          go_wp2_with fail
          refine (most_calls _).mono ?_
          rintro e wz ⟨rfl, hwz⟩
          subst wz
          go_wp2_with fail
          refine hE.mono ?_
          rintro e w1 ⟨rfl, hb⟩
          have B1 : Aside (Below w.heap.size w w1) := hb
          clear hE hb
          go_wp2_with fail
          refine (works_calls _).mono ?_
          rintro e w9 ⟨rfl, hb⟩
          have B9 := Below.next B1.out hb
          clear hb
          go_wp2_with fail
          go_ret
          exact ⟨rfl, B9⟩
        | false =>
          have hE := ends_I_none a cap w
          go_wp2_with fail
          refine (most_calls _).mono ?_
          rintro e wz ⟨rfl, hwz⟩
          subst wz
          go_wp2_with fail
          refine hE.mono ?_
          rintro e w1 ⟨rfl, hb⟩
          have B1 : Aside (Below w.heap.size w w1) := hb
          clear hE hb
          go_wp2_with fail
          refine (works_calls _).mono ?_
          rintro e w9 ⟨rfl, hb⟩
          have B9 := Below.next B1.out hb
          clear hb
          go_wp2_with fail
          go_ret
          exact ⟨rfl, B9⟩
      · have hn0 : 0 < n := by omega
        have hn0z : ((n : Int) == 0) = false := beq_eq_false_iff_ne.2 (by omega)
        clear h3
        go_enter Try.func8, Try.ntmps8
        cases fl with
        | true =>
          have h2 := HR.out
          go_wp2_with fail
          refine (most_calls _).mono ?_
          rintro e wz ⟨rfl, hwz⟩
          subst wz
          have hE := ends_F a cap n d w HR.out.1 HR.out.2.1 hn0 (by omega)
          clear h2
          go_wp2_with fail
          refine hE.mono ?_
          rintro e w1 ⟨u, v, rfl, hP, hb⟩
          have B1 : Aside (Below w.heap.size w w1) := hb
          have HP : Aside (EndsF d n u v) := hP
          have R1 := HR.out.1.keep hb
          have hl1 := least_Fl a cap n d w1 R1 HR.out.2.1 (by omega)
          have hl2 : Aside _ := least_Fg a cap n d w1 R1 HR.out.2.1 (by omega)
          clear hE hP hb R1
          go_wp2_with fail
          refine hl1.mono ?_
          rintro e wz ⟨m1, b1, rfl, hL1, hwz⟩
          subst wz
          have L1 : Aside _ := hL1
          clear hl1 hL1
          go_wp2_with fail
          refine Calls.mono hl2.out ?_
          rintro e wz ⟨m2, b2, rfl, hL2, hwz⟩
          subst wz
          have L2 : Aside _ := hL2
          clear hl2 hL2
          cases b1 with
          | true =>
            have hx := endsF_none HP.out (L1.out.1 rfl).2
            have c1 := none_calls u w1
            have c2 : Aside _ := none_calls v w1
            rw [hx.1] at c1
            have c2' : Aside (Calls Try.prog 26 #[.int .u64 (v : Int)] w1 fun e w' => e = .returned (.bool true) ∧ w' = w1) := by have := c2.out; rwa [hx.2] at this
            clear hx c2
            go_wp2_with fail
            refine c1.mono ?_
            rintro e wz ⟨rfl, hwz⟩
            subst wz
            clear c1
            go_wp2_with fail
            refine Calls.mono c2'.out ?_
            rintro e wz ⟨rfl, hwz⟩
            subst wz
            clear c2'
            go_wp2_with fail
            refine (works_calls _).mono ?_
            rintro e w9 ⟨rfl, hb⟩
            have B9 := Below.next B1.out hb
            clear hb
            go_wp2_with fail
            go_ret
            exact ⟨rfl, B9⟩
          | false =>
            have hx := endsF_some HP.out hn0 ((L1.out.2 rfl).1 (by trivial)) (L1.out.2 rfl).2 (by
              cases b2 with
              | true => obtain ⟨j, hj, hjn⟩ := (L2.out.1 rfl).2; rw [(L1.out.2 rfl).1 (by trivial) j hj] at hjn; cases hjn
              | false => exact (L2.out.2 rfl).2)
            have c1 := alike_F u m1 hx.1 w1
            have c2 : Aside _ := alike_F v m2 hx.2 w1
            clear hx
            go_wp2_with fail
            refine c1.mono ?_
            rintro e wz ⟨rfl, hwz⟩
            subst wz
            clear c1
            go_wp2_with fail
            refine Calls.mono c2.out ?_
            rintro e wz ⟨rfl, hwz⟩
            subst wz
            clear c2
            go_wp2_with fail
            refine (works_calls _).mono ?_
            rintro e w9 ⟨rfl, hb⟩
            have B9 := Below.next B1.out hb
            clear hb
            go_wp2_with fail
            go_ret
            exact ⟨rfl, B9⟩
        | false =>
          have h2 := HR.out
          go_wp2_with fail
          refine (most_calls _).mono ?_
          rintro e wz ⟨rfl, hwz⟩
          subst wz
          have hE := ends_I a cap n d w HR.out.1 HR.out.2.1 hn0 (by omega)
          clear h2
          go_wp2_with fail
          refine hE.mono ?_
          rintro e w1 ⟨u, v, rfl, hP, hb⟩
          have B1 : Aside (Below w.heap.size w w1) := hb
          have HP : Aside (EndsI d n u v) := hP
          have R1 := HR.out.1.keep hb
          have hl1 := least_Il a cap n d w1 R1 HR.out.2.1 (by omega)
          have hl2 : Aside _ := least_Ig a cap n d w1 R1 HR.out.2.1 (by omega)
          clear hE hP hb R1
          go_wp2_with fail
          refine hl1.mono ?_
          rintro e wz ⟨m1, b1, rfl, hL1, hwz⟩
          subst wz
          have L1 : Aside _ := hL1
          clear hl1 hL1
          go_wp2_with fail
          refine Calls.mono hl2.out ?_
          rintro e wz ⟨m2, b2, rfl, hL2, hwz⟩
          subst wz
          have L2 : Aside _ := hL2
          clear hl2 hL2
          cases b1 with
          | true => exact absurd (L1.out.1 rfl).1 (by decide)
          | false =>
            have hx := endsI_some HP.out HR.out.2.1 hn0 HR.out.2.2 (L1.out.2 rfl).2 (by
              cases b2 with
              | true => exact absurd (L2.out.1 rfl).1 (by decide)
              | false => exact (L2.out.2 rfl).2)
            obtain ⟨rfl, rfl⟩ := hx
            have c1 := alike_I u w1
            have c2 : Aside _ := alike_I v w1
            go_wp2_with fail
            refine c1.mono ?_
            rintro e wz ⟨rfl, hwz⟩
            subst wz
            clear c1
            go_wp2_with fail
            refine Calls.mono c2.out ?_
            rintro e wz ⟨rfl, hwz⟩
            subst wz
            clear c2
            go_wp2_with fail
            refine (works_calls _).mono ?_
            rintro e w9 ⟨rfl, hb⟩
            have B9 := Below.next B1.out hb
            clear hb
            go_wp2_with fail
            go_ret
            exact ⟨rfl, B9⟩

theorem open_words {H : Type} {enc : TypeId × Value → H} {W : World} {fuel : Nat} {a : Option Addr} {len cap : Nat} {x : DataW H × List MemPlace} (h : DataW.trod enc Try.prog W 0 (fun _ => true) true fuel 46 [.slice a len cap] = some x) :
    ∃ d : Array Nat, d.size = len ∧ RdU W a d ∧ ∀ i, i < len → d[i]! < 18446744073709551616 := by
  rcases open_slice1 Try.underlying46 (by kernel_rfl) h with ⟨hc, _⟩ | ⟨a', len', cap', m, n, V, D, Pl, hc, _, hl, hm, hmm, _, hall⟩
  · simp only [List.cons.injEq, and_true, Value.slice.injEq] at hc
    obtain ⟨rfl, rfl, rfl⟩ := hc
    exact ⟨#[], rfl, fun h => absurd h (by simp), fun i hi => absurd hi (by omega)⟩
  · simp only [List.cons.injEq, and_true, Value.slice.injEq] at hc
    obtain ⟨rfl, rfl, rfl⟩ := hc
    simp only [if_true] at hmm
    subst hmm
    have hb : ∀ i, i < m → ∃ x : Nat, V i = .int .u64 (x : Int) ∧ x < 18446744073709551616 := fun i hi => by
      obtain ⟨x, h1, _, h3⟩ := DataW.trod_int Try.underlying23 (hall i hi).2
      simp only [List.cons.injEq, and_true] at h1
      have h4 : 0 ≤ x ∧ x ≤ 18446744073709551615 := by simpa [Lit.wf, IntKind.min, IntKind.max, IntKind.signed, IntKind.bits] using h3
      exact ⟨x.toNat, by rw [Int.toNat_of_nonneg h4.1]; exact h1, by omega⟩
    let X : Nat → Nat := fun i => if h : i < m then (hb i h).choose else 0
    have hX : ∀ i, i < len → V i = .int .u64 (X i : Int) ∧ X i < 18446744073709551616 := fun i hi => by
      have hi' : i < m := by omega
      simp only [X, dif_pos hi']
      exact (hb i hi').choose_spec
    let d : Array Nat := ((List.range len).map X).toArray
    have hd : ∀ i, i < len → d[i]! = X i := fun i hi => by
      have : d[i]? = some (X i) := by simp [d, hi]
      rw [getElem!_def, this]
    refine ⟨d, by simp [d], fun h0 => ?_, fun i hi => by rw [hd i hi]; exact (hX i hi).2⟩
    have h0' : 0 < len := by simpa [d] using h0
    obtain ⟨b, off, spot⟩ := a'
    have hspot : spot = none := by simpa [Addr.add] using World.cell?_spot (hall 0 (by omega)).1
    subst hspot
    refine ⟨b, off, rfl, World.block_lt_of_cell? _ _ (hall 0 (by omega)).1, fun i hi => ?_⟩
    have hi' : i < len := by simpa [d] using hi
    rw [hd i hi', ← (hX i hi').1, ← Go.WideShapes.add_plain]
    exact (hall i (by omega)).1

set_option maxRecDepth 100000 in
theorem fnEnds_lifted (os : Os) (started : os.Started) (H : Type) (enc : TypeId × Value → H) :
    ReturnsInHanded {} Try.checked os 8 .any (Rows.fnEndsSpec.pre6 enc Try.prog Try.f8 Rows.fnEndsRow.domain false) (Rows.fnEndsSpec.post enc Try.prog Try.f8 false true false false) := by
  refine returnsInHanded_of_change (C := Try.checked) own started (by kernel_rfl) Try.func8
    (ChangeSpec.witness6 (enc := enc) (C := Try.checked) false ⟨#[], #[.bool false, .slice none 0 0], []⟩ 8 (by kernel_rfl) (by kernel_rfl) (by kernel_rfl) (by kernel_rfl)) ?_
  intro W base args ds gs before hval0 hW _ _
  have hval : ∀ (j : Nat) t v, Try.f8.params[j]? = some t → args[j]? = some v → Value.okWide Try.prog W .any base t v := hval0
  have hW' := hW
  obtain ⟨p, q, hA0, hV, rfl, _, _⟩ := hW
  have hA : DataW.TrodAll enc Try.prog W 0 (fun _ => true) true Try.f8.params.toList args.toList ds p := hA0
  rw [Try.params8] at hA hval
  obtain ⟨v0, vs0, d0, ds0, p0, q0, hargs, rfl, rfl, h0, r0⟩ := trodAll_cons hA
  obtain ⟨v1, vs1, d1, ds1, p1, q1, rfl, rfl, rfl, h1, r1⟩ := trodAll_cons r0
  obtain ⟨rfl, rfl, rfl⟩ := trodAll_nil r1
  obtain rfl : args = #[v0, v1] := by cases args; simp_all
  obtain ⟨bi, rfl⟩ := okWide_bool Try.underlying4 (hval 0 4 v0 rfl rfl)
  obtain ⟨a, len, cap, rfl⟩ := okWide_slice Try.underlying46 (hval 1 46 v1 rfl rfl)
  obtain ⟨fuel, hf⟩ := h1
  obtain ⟨d, hd, hArg, hIn⟩ := open_words hf
  refine (fnEnds_walk bi a cap len d W hArg hd hIn).mono fun e W' ⟨he, hB⟩ => ?_
  subst he
  exact ⟨_, rfl, post_true hW' rfl (by rw [Try.params8]; decide) rfl rfl hB⟩

theorem fnEnds_over : Rows.fnEndsRow.holds Try.pinned (OpenSpec.ofChange Rows.fnEndsSpec) :=
  OpenClaim.holds_of_wide 8 Try.f8 rfl rfl rfl rfl rfl rfl rfl ⟨rfl, rfl, rfl, rfl, rfl⟩ rfl rfl rfl rfl rfl (by kernel_rfl) Try.func8 (by kernel_rfl)
    (of_decide_eq_true (by kernel_rfl)) (by unfold Func.isWrapper; first | (rw [if_pos (by decide +kernel)]; kernel_rfl) | (rw [if_neg (by decide +kernel)]; exact ⟨rfl, rfl⟩))
    (fun os started H enc _ => fnEnds_lifted os started H enc)

theorem fnEnds_proved : Rows.FnEndsSaid := fnEnds_over
end Go.Proofs.Ytglgmkikegbchaa
