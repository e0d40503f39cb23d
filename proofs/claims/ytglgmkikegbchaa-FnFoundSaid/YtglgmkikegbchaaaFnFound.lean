/- FnFound (printed by gen/found.py). -/
import Derived.Test.YtglgmkikegbchaaaFound
import Derived.Test.YtglgmkikegbchaaaWhole
import Derived.Test.YtglgmkikegbchaaBase
import Derived.Test.YtglgmkikegbchaaWorks
import Derived.Test.YtglgmkikegbchaaJoin
namespace Go.Proofs.Ytglgmkikegbchaa
open Go.ChangeShapes Go.WideShapes Go.ChangeAt Go.RowKit Go.Deep Go.Sort

/-- The place is one alone: where nothing ahead of it stands behind the element, and it does not stand ahead. -/
theorem place_same (o : Ordr) (h3 : o.kind ≠ 3) (E : Array It) (x : It) (n : Nat) (hm : ∀ i j, i ≤ j → j < n → muO o E[i]! ≤ muO o E[j]!) (up : Nat → Prop) (zr : Nat → Bool)
    (hup : ∀ i, up i ↔ muO o E[i]! < muO o x) (hzr : ∀ i, ¬ up i → zr i = !ltC (cfO o) x E[i]!) (P : Nat) (b : Bool) (P' : Nat) (b' : Bool)
    (hP : P ≤ n ∧ (∀ j, j < P → ltC (cfO o) E[j]! x = true) ∧ (P < n → ltC (cfO o) E[P]! x = false ∧ b = !ltC (cfO o) x E[P]!) ∧ (¬ P < n → b = false))
    (hP' : FoundP up zr n P' b') : P' = P ∧ b' = b := by
  obtain ⟨p1, p2, p3, p4⟩ := hP
  obtain ⟨q1, q2, q3, q4⟩ := hP'
  have lt_iff : ∀ y z, ltC (cfO o) y z = true ↔ muO o y < muO o z := fun y z => by rw [ltC_by o h3]; simp [ltBy]
  have hPP : P' = P := by
    rcases Nat.lt_trichotomy P' P with h | h | h
    · have h1 := (lt_iff _ _).1 (p2 P' h)
      exact absurd ((hup P').2 h1) (q3 (by omega)).1
    · exact h
    · have h1 := (hup _).1 (q2 (by omega))
      have h2 := hm P (P' - 1) (by omega) (by omega)
      have h3' := (p3 (by omega)).1
      have := (lt_iff E[P]! x).2 (by omega)
      rw [h3'] at this; cases this
  subst hPP
  refine ⟨rfl, ?_⟩
  by_cases hn : P' < n
  · rw [(q3 hn).2, (p3 hn).2]
    exact hzr P' (q3 hn).1
  · rw [q4 hn, p4 hn]

set_option maxHeartbeats 4000000 in
set_option maxRecDepth 1000000 in
theorem fnFound_walk (bi : Bool) (a : Option Addr) (cap : Nat) (d : Array It) (o : Ordr) (x : It) (w : World) (h : Rd2 w a d) :
    Calls Try.prog 7 #[.bool bi, .slice a d.size cap, vOrd o, vIt x] w fun e w' => e = .returned (.bool true) ∧ Below w.heap.size w w' := by
  obtain ⟨E, hE⟩ : ∃ E, E = (stablyP (ltC (cfO o)) d.toList).toArray := ⟨_, rfl⟩
  obtain ⟨F, hF⟩ : ∃ F, F = fitsB d.size o := ⟨_, rfl⟩
  obtain ⟨I, hI⟩ : ∃ I, I = (o.kind != 3) := ⟨_, rfl⟩
  have hz : F = true → d.size ≤ 2000 ∧ 0 ≤ o.shift ∧ o.shift < 64 := fun e => by
    rw [e] at hF
    unfold fitsB at hF
    simp only [Bool.true_eq, Bool.and_eq_true, decide_eq_true_eq] at hF
    exact ⟨hF.1.1.1.1, hF.1.2, hF.2⟩
  have h3 : I = true → o.kind ≠ 3 := fun e => by
    rw [e] at hI
    simpa using hI.symm
  have fits := fun W => fits_calls a cap d.size o W
  have isC := fun W => is_calls o W
  rw [← hF] at fits
  rw [← hI] at isC
  have hEn : E.size = d.size := by rw [hE, List.size_toArray, length_stablyP, Array.length_toList]
  have hmono : I = true → ∀ i j, i ≤ j → j < d.size → muO o E[i]! ≤ muO o E[j]! := fun e i j h1 h2 => by
    have hs := (stable_stable (μ := muO o) d d.size (Nat.le_refl _)).2.1
    rw [stable_list, ← ltC_by o (h3 e), ← hE, ltC_by o (h3 e)] at hs
    exact sortedBy_le hs (Nat.zero_le _) h1 h2
  have WS : Aside (F = true → ∀ W, Rd2 W a d → Calls Try.prog 18 #[.slice a d.size cap, vOrd o] W fun e w' => ∃ ra rcap, e = .returned (.slice ra d.size rcap) ∧ Rd2 w' ra E ∧ d.size ≤ rcap ∧ Below W.heap.size W w') := fun e W hW => by
    rw [hE]; exact stably_calls a cap d.size d o W hW rfl (hz e).1 (hz e).2.1 (hz e).2.2
  have WP : Aside (F = true → ∀ (W : World) (ra : Option Addr) (rcap : Nat), Rd2 W ra E → Calls Try.prog 22 #[.slice ra d.size rcap, vOrd o, vIt x] W fun e w' => PlaceTo W (ltC (cfO o)) E x d.size e w') := fun e W ra rcap hr => place_calls ra rcap d.size E o x W hr hEn (hz e).1 (hz e).2.1 (hz e).2.2
  have WQ0 : Aside (F = true → ∀ (W : World) (ra : Option Addr) (rcap : Nat), Rd2 W ra E → Calls Try.prog 23 #[.int .i64 0, .slice ra d.size rcap, vOrd o, vIt x] W fun e w' => FoundTo W (fun i => cfO o E[i]! x < 0) (fun i => cfO o E[i]! x == 0) d.size e w') := fun e W ra rcap hr => found_0 ra rcap d.size E o x W hr hEn (hz e).1 (hz e).2.1 (hz e).2.2
  have WQ1 : Aside (F = true → ∀ (W : World) (ra : Option Addr) (rcap : Nat), Rd2 W ra E → Calls Try.prog 23 #[.int .i64 1, .slice ra d.size rcap, vOrd o, vIt x] W fun e w' => FoundTo W (fun i => 0 < cfO o x E[i]!) (fun i => cfO o x E[i]! == 0) d.size e w') := fun e W ra rcap hr => found_1 ra rcap d.size E o x W hr hEn (hz e).1 (hz e).2.1 (hz e).2.2
  have lt_iff : I = true → ∀ y z, ltC (cfO o) y z = true ↔ muO o y < muO o z := fun e y z => by rw [ltC_by o (h3 e)]; simp [ltBy]
  have SM0 := fun (e : I = true) => place_same o (h3 e) E x d.size (hmono e) (fun i => cfO o E[i]! x < 0) (fun i => cfO o E[i]! x == 0) (fun i => by rcases cf_cases o (h3 e) E[i]! x with h | h | h <;> rw [h.2] <;> omega) (fun i hi => by
    have hl := lt_iff e x E[i]!
    rcases cf_cases o (h3 e) E[i]! x with h | h | h
    · rw [h.2] at hi; omega
    · rw [h.2, show ltC (cfO o) x E[i]! = false from Bool.eq_false_iff.2 (fun hc => by have := hl.1 hc; omega)]; rfl
    · rw [h.2, hl.2 h.1]; rfl)
  have SM1 := fun (e : I = true) => place_same o (h3 e) E x d.size (hmono e) (fun i => 0 < cfO o x E[i]!) (fun i => cfO o x E[i]! == 0) (fun i => by rcases cf_cases o (h3 e) x E[i]! with h | h | h <;> rw [h.2] <;> omega) (fun i hi => by
    have hl := lt_iff e x E[i]!
    rcases cf_cases o (h3 e) x E[i]! with h | h | h
    · rw [h.2, hl.2 h.1]; rfl
    · rw [h.2, show ltC (cfO o) x E[i]! = false from Bool.eq_false_iff.2 (fun hc => by have := hl.1 hc; omega)]; rfl
    · rw [h.2] at hi; omega)
  have SA0 : Aside _ := SM0
  have SA1 : Aside _ := SM1
  have R0 : Aside (Rd2 w a d) := h
  obtain ⟨n, hn⟩ : ∃ n, n = d.size := ⟨_, rfl⟩
  rw [← hn] at fits WS WP WQ0 WQ1 SA0 SA1 ⊢
  clear hE hF hI hz h3 h hn hEn hmono lt_iff SM0 SM1
  generalize ltC (cfO o) = lt at WP SA0 SA1
  generalize cfO o = cf at WQ0 WQ1 SA0 SA1
  obtain ⟨k, s, m0, m1, m2⟩ := o
  obtain ⟨x1, x2⟩ := x
  obtain ⟨U0, hU0⟩ : ∃ U, U = w.alloc (.cells #[.int .i64 k, .int .i64 s, .int .u64 m0, .int .u64 m1, .int .u64 m2] 26) := ⟨_, rfl⟩
  obtain ⟨U, hU⟩ : ∃ U, U = U0.alloc (.cells #[.int .i64 x1, .int .i64 x2] 34) := ⟨_, rfl⟩
  have b0 : Below w.heap.size w U0 := by rw [hU0]; exact below_alloc _ _
  have b1 : Below U0.heap.size U0 U := by rw [hU]; exact below_alloc _ _
  have g0 : U0.heap.size = w.heap.size + 1 := by rw [hU0]; simp
  have B0 : Aside (Below w.heap.size w U) := Below.next b0 b1
  have K0 : Aside (BoxO U w.heap.size ⟨k, s, m0, m1, m2⟩) := BoxO.keep (by rw [hU0]; exact boxO_new w ⟨k, s, m0, m1, m2⟩ _) b1
  have I0 : Aside (BoxI U (w.heap.size + 1) x1 x2) := by show BoxI _ _ _ _; rw [← g0, hU]; exact boxI_new _ _ _ _
  clear b0 b1 g0
  by_cases h1 : 2147483647 < n
  · have h1z : (2147483647 : Int) < (n : Int) := by omega
    clear fits isC
    go_enter Try.func7, Try.ntmps7
    go_upto_region 1 with fail
    rw [← hU0, ← hU]
    clear hU hU0
    go_wp2_with fail
    go_ret
    exact ⟨rfl, B0.out⟩
  · have h1z : ¬ (2147483647 : Int) < (n : Int) := by omega
    go_enter Try.func7, Try.ntmps7
    go_upto_region 1 with fail
    rw [← hU0, ← hU]
    clear hU hU0
    obtain ⟨_, k0, k1, k2, k3, k4⟩ := K0.out
    go_wp2_with fail
    refine (fits _).mono ?_
    rintro e w1 ⟨rfl, hb⟩
    have B1 : Aside (Below w.heap.size w w1) := Below.next B0.out hb
    have K1 : Aside (BoxO w1 w.heap.size ⟨k, s, m0, m1, m2⟩) := K0.out.keep hb
    have I1 : Aside (BoxI w1 (w.heap.size + 1) x1 x2) := I0.out.keep hb
    clear hb K0 B0 I0 fits k0 k1 k2 k3 k4
    cases F with
    | false =>
      go_wp2_with fail
      refine (works_calls _).mono ?_
      rintro e w9 ⟨rfl, hb⟩
      go_wp2_with fail
      go_ret
      exact ⟨rfl, Below.next B1.out hb⟩
    | true =>
      obtain ⟨_, k0, k1, k2, k3, k4⟩ := K1.out
      go_wp2_with fail
      refine (isC _).mono ?_
      rintro e w3 ⟨rfl, hb⟩
      have B3 : Aside (Below w.heap.size w w3) := Below.next B1.out hb
      have K3 : Aside (BoxO w3 w.heap.size ⟨k, s, m0, m1, m2⟩) := K1.out.keep hb
      have I3 : Aside (BoxI w3 (w.heap.size + 1) x1 x2) := I1.out.keep hb
      clear hb K1 B1 I1 isC k0 k1 k2 k3 k4
      cases I with
      | false =>
        go_wp2_with fail
        refine (works_calls _).mono ?_
        rintro e w9 ⟨rfl, hb⟩
        go_wp2_with fail
        go_ret
        exact ⟨rfl, Below.next B3.out hb⟩
      | true =>
        have SAME0 : Aside (true = true → _) := fun _ => SA0.out (by trivial)
        have SAME1 : Aside (true = true → _) := fun _ => SA1.out (by trivial)
        have hst := WS.out (by trivial) w3 (R0.out.keep B3.out)
        obtain ⟨_, k0, k1, k2, k3, k4⟩ := K3.out
        clear SA0 SA1 WS
        cases bi with
        | true =>
          go_wp2_with fail
          refine hst.mono ?_
          rintro e w4 ⟨ra, rcap, rfl, hr, _, hb⟩
          have B4 : Aside (Below w.heap.size w w4) := Below.next B3.out hb
          have K4 : Aside (BoxO w4 w.heap.size ⟨k, s, m0, m1, m2⟩) := K3.out.keep hb
          have I4 : Aside (BoxI w4 (w.heap.size + 1) x1 x2) := I3.out.keep hb
          have R4 : Aside (Rd2 w4 ra E) := hr
          have hpl := WP.out (by trivial) w4 ra rcap hr
          clear hb hst hr K3 I3 B3 WP k0 k1 k2 k3 k4
          obtain ⟨_, k0, k1, k2, k3, k4⟩ := K4.out
          obtain ⟨_, i0, i1⟩ := I4.out
          go_wp2_with fail
          refine hpl.mono ?_
          rintro e w5 ⟨P, b, rfl, hP, hb⟩
          have B5 : Aside (Below w.heap.size w w5) := Below.next B4.out hb
          have K5 : Aside (BoxO w5 w.heap.size ⟨k, s, m0, m1, m2⟩) := K4.out.keep hb
          have I5 : Aside (BoxI w5 (w.heap.size + 1) x1 x2) := I4.out.keep hb
          have hw := WQ1.out (by trivial) w5 ra rcap (R4.out.keep hb)
          have SH := fun P' b' h' => SAME1.out (by trivial) P b P' b' hP h'
          have HS : Aside _ := SH
          clear hb hpl hP SH B4 K4 I4 R4 WQ0 WQ1 SAME0 SAME1 k0 k1 k2 k3 k4 i0 i1
          obtain ⟨_, k0, k1, k2, k3, k4⟩ := K5.out
          obtain ⟨_, i0, i1⟩ := I5.out
          go_wp2_with fail
          refine hw.mono ?_
          rintro e w6 ⟨P', b', rfl, hP', hb⟩
          have B6 : Aside (Below w.heap.size w w6) := Below.next B5.out hb
          obtain ⟨rfl, rfl⟩ := HS.out P' b' hP'
          clear hw hb hP' HS B5 K5 I5 k0 k1 k2 k3 k4 i0 i1
          go_wp2_with fail
          refine (works_calls _).mono ?_
          rintro e w9 ⟨rfl, hb⟩
          go_wp2_with fail
          go_ret
          exact ⟨rfl, Below.next B6.out hb⟩
        | false =>
          go_wp2_with fail
          refine hst.mono ?_
          rintro e w4 ⟨ra, rcap, rfl, hr, _, hb⟩
          have B4 : Aside (Below w.heap.size w w4) := Below.next B3.out hb
          have K4 : Aside (BoxO w4 w.heap.size ⟨k, s, m0, m1, m2⟩) := K3.out.keep hb
          have I4 : Aside (BoxI w4 (w.heap.size + 1) x1 x2) := I3.out.keep hb
          have R4 : Aside (Rd2 w4 ra E) := hr
          have hpl := WP.out (by trivial) w4 ra rcap hr
          clear hb hst hr K3 I3 B3 WP k0 k1 k2 k3 k4
          obtain ⟨_, k0, k1, k2, k3, k4⟩ := K4.out
          obtain ⟨_, i0, i1⟩ := I4.out
          go_wp2_with fail
          refine hpl.mono ?_
          rintro e w5 ⟨P, b, rfl, hP, hb⟩
          have B5 : Aside (Below w.heap.size w w5) := Below.next B4.out hb
          have K5 : Aside (BoxO w5 w.heap.size ⟨k, s, m0, m1, m2⟩) := K4.out.keep hb
          have I5 : Aside (BoxI w5 (w.heap.size + 1) x1 x2) := I4.out.keep hb
          have hw := WQ0.out (by trivial) w5 ra rcap (R4.out.keep hb)
          have SH := fun P' b' h' => SAME0.out (by trivial) P b P' b' hP h'
          have HS : Aside _ := SH
          clear hb hpl hP SH B4 K4 I4 R4 WQ0 WQ1 SAME0 SAME1 k0 k1 k2 k3 k4 i0 i1
          obtain ⟨_, k0, k1, k2, k3, k4⟩ := K5.out
          obtain ⟨_, i0, i1⟩ := I5.out
          go_wp2_with fail
          refine hw.mono ?_
          rintro e w6 ⟨P', b', rfl, hP', hb⟩
          have B6 : Aside (Below w.heap.size w w6) := Below.next B5.out hb
          obtain ⟨rfl, rfl⟩ := HS.out P' b' hP'
          clear hw hb hP' HS B5 K5 I5 k0 k1 k2 k3 k4 i0 i1
          go_wp2_with fail
          refine (works_calls _).mono ?_
          rintro e w9 ⟨rfl, hb⟩
          go_wp2_with fail
          go_ret
          exact ⟨rfl, Below.next B6.out hb⟩


set_option maxHeartbeats 4000000 in
set_option maxRecDepth 100000 in
theorem fnFound_lifted (os : Os) (started : os.Started) (H : Type) (enc : TypeId × Value → H) :
    ReturnsInHanded {} Try.checked os 7 .any (Rows.fnFoundSpec.pre6 enc Try.prog Try.f7 Rows.fnFoundRow.domain false) (Rows.fnFoundSpec.post enc Try.prog Try.f7 false true false false) := by
  refine returnsInHanded_of_change (C := Try.checked) own started (by kernel_rfl) Try.func7
    (ChangeSpec.witness6 (enc := enc) (C := Try.checked) false ⟨#[], #[.bool false, .slice none 0 0, .agg #[.int .i64 0, .int .i64 0, .int .u64 0, .int .u64 0, .int .u64 0], .agg #[.int .i64 0, .int .i64 0]], []⟩ 8 (by kernel_rfl) (by kernel_rfl) (by kernel_rfl) (by kernel_rfl)) ?_
  intro W base args ds gs before hval0 hW _ _
  have hval : ∀ (j : Nat) t v, Try.f7.params[j]? = some t → args[j]? = some v → Value.okWide Try.prog W .any base t v := hval0
  have hW' := hW
  obtain ⟨p, q, hA0, hV, rfl, _, _⟩ := hW
  have hA : DataW.TrodAll enc Try.prog W 0 (fun _ => true) true Try.f7.params.toList args.toList ds p := hA0
  rw [Try.params7] at hA hval
  obtain ⟨v0, vs0, d0, ds0, p0, q0, hargs, rfl, rfl, h0, r0⟩ := trodAll_cons hA
  obtain ⟨v1, vs1, d1, ds1, p1, q1, rfl, rfl, rfl, h1, r1⟩ := trodAll_cons r0
  obtain ⟨v2, vs2, d2, ds2, p2, q2, rfl, rfl, rfl, h2, r2⟩ := trodAll_cons r1
  obtain ⟨v3, vs3, d3, ds3, p3, q3, rfl, rfl, rfl, h3, r3⟩ := trodAll_cons r2
  obtain ⟨rfl, rfl, rfl⟩ := trodAll_nil r3
  obtain rfl : args = #[v0, v1, v2, v3] := by cases args; simp_all
  obtain ⟨bi, rfl⟩ := okWide_bool Try.underlying4 (hval 0 4 v0 rfl rfl)
  obtain ⟨a, len, cap, rfl⟩ := okWide_slice Try.underlying22 (hval 1 22 v1 rfl rfl)
  obtain ⟨o, rfl, _⟩ := open_order (hval 2 26 v2 rfl rfl)
  obtain ⟨x, rfl, _⟩ := open_item (hval 3 34 v3 rfl rfl)
  obtain ⟨fuel, hf⟩ := h1
  obtain ⟨d, rfl, hArg, _⟩ := open_items hf
  refine (fnFound_walk bi a cap d o x W hArg).mono fun e W' ⟨he, hB⟩ => ?_
  subst he
  exact ⟨_, rfl, post_true hW' rfl (by rw [Try.params7]; decide) rfl rfl hB⟩

theorem fnFound_over : Rows.fnFoundRow.holds Try.pinned (OpenSpec.ofChange Rows.fnFoundSpec) :=
  OpenClaim.holds_of_wide 7 Try.f7 rfl rfl rfl rfl rfl rfl rfl ⟨rfl, rfl, rfl, rfl, rfl⟩ rfl rfl rfl rfl rfl (by kernel_rfl) Try.func7 (by kernel_rfl)
    (of_decide_eq_true (by kernel_rfl)) (by unfold Func.isWrapper; first | (rw [if_pos (by decide +kernel)]; kernel_rfl) | (rw [if_neg (by decide +kernel)]; exact ⟨rfl, rfl⟩))
    (fun os started H enc _ => fnFound_lifted os started H enc)

theorem fnFound_proved : Rows.FnFoundSaid := fnFound_over
end Go.Proofs.Ytglgmkikegbchaa
