/- FnStable (printed by gen/whole.py). -/
import Derived.Test.YtglgmkikegbchaaaWhole
import Derived.Test.YtglgmkikegbchaaBase
import Derived.Test.YtglgmkikegbchaaWorks
import Derived.Test.YtglgmkikegbchaaJoin
namespace Go.Proofs.Ytglgmkikegbchaa
open Go.ChangeShapes Go.WideShapes Go.ChangeAt Go.RowKit Go.Deep Go.Sort

set_option maxHeartbeats 4000000 in
set_option maxRecDepth 1000000 in
theorem fnStable_walk (bi : Bool) (a : Option Addr) (cap : Nat) (d : Array It) (o : Ordr) (w : World) (h : Rd2 w a d) :
    Calls Try.prog 4 #[.bool bi, .slice a d.size cap, vOrd o] w fun e w' => e = .returned (.bool true) ∧ Below w.heap.size w w' := by
  obtain ⟨D, hD⟩ : ∃ D, D = stable (ltC (cfO o)) d d.size := ⟨_, rfl⟩
  obtain ⟨F, hF⟩ : ∃ F, F = fitsB d.size o := ⟨_, rfl⟩
  obtain ⟨I, hI⟩ : ∃ I, I = (o.kind != 3) := ⟨_, rfl⟩
  have hz : F = true → d.size ≤ 2000 ∧ 0 ≤ o.shift ∧ o.shift < 64 := fun e => by
    rw [e] at hF
    unfold fitsB at hF
    simp only [Bool.true_eq, Bool.and_eq_true, decide_eq_true_eq] at hF
    exact ⟨hF.1.1.1.1, hF.1.2, hF.2⟩
  have h3 : I = true → o.kind ≠ 3 := fun e => by
    rw [e] at hI
    simpa using hI.symm
  have fits := fun W => fits_calls a cap d.size o W
  have isC := fun W => is_calls o W
  rw [← hF] at fits
  rw [← hI] at isC
  have SZ : Aside (D.size = d.size) := by show _ = _; rw [hD]; exact stable_size _ d
  have WC : Aside (F = true → ∀ W, Rd2 W a d → Calls Try.prog 13 #[.int .i64 1, .slice a d.size cap, vOrd o] W fun e w' => ∃ v, e = .returned (.tuple #[v, .bool true]) ∧ CopiedTo W D v w') := fun e W hW => by
    rw [hD]; exact whole_stable_c a cap d o (hz e).2.1 (hz e).2.2 W hW (hz e).1
  have WF : Aside (F = true → ∀ W, Rd2 W a d → Calls Try.prog 13 #[.int .i64 3, .slice a d.size cap, vOrd o] W fun e w' => ∃ v, e = .returned (.tuple #[v, .bool true]) ∧ CopiedTo W D v w') := fun e W hW => by
    rw [hD]; exact whole_stable_f a cap d o (hz e).2.1 (hz e).2.2 W hW (hz e).1
  have WS : Aside (F = true → ∀ W, Rd2 W a d → Calls Try.prog 18 #[.slice a d.size cap, vOrd o] W fun e w' => ∃ ra rcap, e = .returned (.slice ra d.size rcap) ∧ Rd2 w' ra (stablyP (ltC (cfO o)) d.toList).toArray ∧ d.size ≤ rcap ∧ Below W.heap.size W w') := fun e W hW => stably_calls a cap d.size d o W hW rfl (hz e).1 (hz e).2.1 (hz e).2.2
  have WM : Aside (F = true → I = true → ∀ (W : World) (b bc : Nat) (ra : Option Addr) (rcap : Nat), b < W.heap.size → Holds2 W b 0 D → Rd2 W ra (stablyP (ltC (cfO o)) d.toList).toArray → Calls Try.prog 17 #[.slice (some ⟨b, 0, none⟩) d.size bc, .slice ra d.size rcap] W fun e w' => e = .returned (.bool true) ∧ ∃ q, w' = W.drewN q) := fun e1 e2 W b bc ra rcap hb hH hr => by
    have eD : D = (stablyP (ltC (cfO o)) d.toList).toArray := by rw [hD, ltC_by o (h3 e2)]; exact stable_list d
    have hs := SZ.out
    rw [← eD] at hr
    have := same_calls (some ⟨b, 0, none⟩) ra bc rcap D D W (fun _ => ⟨b, 0, rfl, hb, fun i hi => ⟨(hH i hi).1, (hH i hi).2.1⟩⟩) hr (by rw [hs]; exact (hz e1).1)
    rw [hs, decide_eq_true rfl] at this
    exact this
  have R0 : Aside (Rd2 w a d) := h
  obtain ⟨n, hn⟩ : ∃ n, n = d.size := ⟨_, rfl⟩
  rw [← hn] at fits SZ WC WF WS WM ⊢
  clear hD hF hI hz h3 h hn
  generalize stablyP (ltC (cfO o)) d.toList = SL at WS WM
  obtain ⟨k, s, m0, m1, m2⟩ := o
  have B0 : Aside (Below w.heap.size w (w.alloc (.cells #[.int .i64 k, .int .i64 s, .int .u64 m0, .int .u64 m1, .int .u64 m2] 26))) := below_alloc _ _
  have K0 : Aside (BoxO (w.alloc (.cells #[.int .i64 k, .int .i64 s, .int .u64 m0, .int .u64 m1, .int .u64 m2] 26)) w.heap.size ⟨k, s, m0, m1, m2⟩) := boxO_new w ⟨k, s, m0, m1, m2⟩ _
  by_cases h1 : 2147483647 < n
  · have h1z : (2147483647 : Int) < (n : Int) := by omega
    clear fits isC
    go_enter Try.func4, Try.ntmps4
    go_wp2_with fail
    go_ret
    exact ⟨rfl, B0.out⟩
  · have h1z : ¬ (2147483647 : Int) < (n : Int) := by omega
    go_enter Try.func4, Try.ntmps4
    go_wp2_with fail
    refine (fits _).mono ?_
    rintro e w1 ⟨rfl, hb⟩
    have B1 : Aside (Below w.heap.size w w1) := Below.next B0.out hb
    have K1 : Aside (BoxO w1 w.heap.size ⟨k, s, m0, m1, m2⟩) := K0.out.keep hb
    clear hb K0 B0 fits
    cases F with
    | false =>
      go_wp2_with fail
      refine (works_calls _).mono ?_
      rintro e w9 ⟨rfl, hb⟩
      go_wp2_with fail
      go_ret
      exact ⟨rfl, Below.next B1.out hb⟩
    | true =>
      obtain ⟨_, k0, k1, k2, k3, k4⟩ := K1.out
      go_wp2_with fail
      refine (isC _).mono ?_
      rintro e w3 ⟨rfl, hb⟩
      have B3 : Aside (Below w.heap.size w w3) := Below.next B1.out hb
      have K3 : Aside (BoxO w3 w.heap.size ⟨k, s, m0, m1, m2⟩) := K1.out.keep hb
      clear hb K1 B1 isC k0 k1 k2 k3 k4
      cases I with
      | false =>
        go_wp2_with fail
        refine (works_calls _).mono ?_
        rintro e w9 ⟨rfl, hb⟩
        go_wp2_with fail
        go_ret
        exact ⟨rfl, Below.next B3.out hb⟩
      | true =>
        have WH_c := WC.out (by trivial)
        have WH_f := WF.out (by trivial)
        have ST := WS.out (by trivial)
        have SM := WM.out (by trivial) (by trivial)
        clear WC WF WS WM
        cases bi with
        | true =>
          have hw := WH_f w3 (R0.out.keep B3.out)
          obtain ⟨_, k0, k1, k2, k3, k4⟩ := K3.out
          go_wp2_with fail
          refine hw.mono ?_
          rintro e w4 ⟨v, rfl, b, bc, rfl, hb1, hb2, hb3, hb4, hb⟩
          have B4 : Aside (Below w.heap.size w w4) := Below.next B3.out hb
          have K4 : Aside (BoxO w4 w.heap.size ⟨k, s, m0, m1, m2⟩) := K3.out.keep hb
          have RD : Aside (b < w4.heap.size ∧ Holds2 w4 b 0 D) := ⟨hb2, hb4⟩
          have hst := ST w4 (R0.out.keep B4.out)
          clear hw hb hb1 hb2 hb3 hb4 k0 k1 k2 k3 k4 K3 B3 WH_c WH_f
          obtain ⟨_, k0, k1, k2, k3, k4⟩ := K4.out
          rw [SZ.out]
          go_wp2_with fail
          refine hst.mono ?_
          rintro e w5 ⟨ra, rcap, rfl, hr, _, hb⟩
          have B5 : Aside (Below w.heap.size w w5) := Below.next B4.out hb
          have hsm := SM w5 b bc ra rcap (Nat.lt_of_lt_of_le RD.out.1 hb.size) (Holds2_of_block (hb.block b RD.out.1) RD.out.2) hr
          clear hst hb hr B4 K4 RD k0 k1 k2 k3 k4 SM ST
          go_wp2_with fail
          refine hsm.mono ?_
          rintro e w' ⟨rfl, q, rfl⟩
          have B6 : Aside (Below w.heap.size w (w5.drewN q)) := below_drewN B5.out q
          clear B5 hsm
          generalize w5.drewN q = w6 at B6 ⊢
          go_wp2_with fail
          refine (works_calls _).mono ?_
          rintro e w9 ⟨rfl, hb⟩
          go_wp2_with fail
          go_ret
          exact ⟨rfl, Below.next B6.out hb⟩
        | false =>
          have hw := WH_c w3 (R0.out.keep B3.out)
          obtain ⟨_, k0, k1, k2, k3, k4⟩ := K3.out
          go_wp2_with fail
          refine hw.mono ?_
          rintro e w4 ⟨v, rfl, b, bc, rfl, hb1, hb2, hb3, hb4, hb⟩
          have B4 : Aside (Below w.heap.size w w4) := Below.next B3.out hb
          have K4 : Aside (BoxO w4 w.heap.size ⟨k, s, m0, m1, m2⟩) := K3.out.keep hb
          have RD : Aside (b < w4.heap.size ∧ Holds2 w4 b 0 D) := ⟨hb2, hb4⟩
          have hst := ST w4 (R0.out.keep B4.out)
          clear hw hb hb1 hb2 hb3 hb4 k0 k1 k2 k3 k4 K3 B3 WH_c WH_f
          obtain ⟨_, k0, k1, k2, k3, k4⟩ := K4.out
          rw [SZ.out]
          go_wp2_with fail
          refine hst.mono ?_
          rintro e w5 ⟨ra, rcap, rfl, hr, _, hb⟩
          have B5 : Aside (Below w.heap.size w w5) := Below.next B4.out hb
          have hsm := SM w5 b bc ra rcap (Nat.lt_of_lt_of_le RD.out.1 hb.size) (Holds2_of_block (hb.block b RD.out.1) RD.out.2) hr
          clear hst hb hr B4 K4 RD k0 k1 k2 k3 k4 SM ST
          go_wp2_with fail
          refine hsm.mono ?_
          rintro e w' ⟨rfl, q, rfl⟩
          have B6 : Aside (Below w.heap.size w (w5.drewN q)) := below_drewN B5.out q
          clear B5 hsm
          generalize w5.drewN q = w6 at B6 ⊢
          go_wp2_with fail
          refine (works_calls _).mono ?_
          rintro e w9 ⟨rfl, hb⟩
          go_wp2_with fail
          go_ret
          exact ⟨rfl, Below.next B6.out hb⟩


set_option maxRecDepth 100000 in
theorem fnStable_lifted (os : Os) (started : os.Started) (H : Type) (enc : TypeId × Value → H) :
    ReturnsInHanded {} Try.checked os 4 .any (Rows.fnStableSpec.pre6 enc Try.prog Try.f4 Rows.fnStableRow.domain false) (Rows.fnStableSpec.post enc Try.prog Try.f4 false true false false) := by
  refine returnsInHanded_of_change (C := Try.checked) own started (by kernel_rfl) Try.func4
    (ChangeSpec.witness6 (enc := enc) (C := Try.checked) false ⟨#[], #[.bool false, .slice none 0 0, .agg #[.int .i64 0, .int .i64 0, .int .u64 0, .int .u64 0, .int .u64 0]], []⟩ 8 (by kernel_rfl) (by kernel_rfl) (by kernel_rfl) (by kernel_rfl)) ?_
  intro W base args ds gs before hval0 hW _ _
  have hval : ∀ (j : Nat) t v, Try.f4.params[j]? = some t → args[j]? = some v → Value.okWide Try.prog W .any base t v := hval0
  have hW' := hW
  obtain ⟨p, q, hA0, hV, rfl, _, _⟩ := hW
  have hA : DataW.TrodAll enc Try.prog W 0 (fun _ => true) true Try.f4.params.toList args.toList ds p := hA0
  rw [Try.params4] at hA hval
  obtain ⟨v0, vs0, d0, ds0, p0, q0, hargs, rfl, rfl, h0, r0⟩ := trodAll_cons hA
  obtain ⟨v1, vs1, d1, ds1, p1, q1, rfl, rfl, rfl, h1, r1⟩ := trodAll_cons r0
  obtain ⟨v2, vs2, d2, ds2, p2, q2, rfl, rfl, rfl, h2, r2⟩ := trodAll_cons r1
  obtain ⟨rfl, rfl, rfl⟩ := trodAll_nil r2
  obtain rfl : args = #[v0, v1, v2] := by cases args; simp_all
  obtain ⟨bi, rfl⟩ := okWide_bool Try.underlying4 (hval 0 4 v0 rfl rfl)
  obtain ⟨a, len, cap, rfl⟩ := okWide_slice Try.underlying22 (hval 1 22 v1 rfl rfl)
  obtain ⟨o, rfl, _⟩ := open_order (hval 2 26 v2 rfl rfl)
  obtain ⟨fuel, hf⟩ := h1
  obtain ⟨d, rfl, hArg, _⟩ := open_items hf
  refine (fnStable_walk bi a cap d o W hArg).mono fun e W' ⟨he, hB⟩ => ?_
  subst he
  exact ⟨_, rfl, post_true hW' rfl (by rw [Try.params4]; decide) rfl rfl hB⟩

theorem fnStable_over : Rows.fnStableRow.holds Try.pinned (OpenSpec.ofChange Rows.fnStableSpec) :=
  OpenClaim.holds_of_wide 4 Try.f4 rfl rfl rfl rfl rfl rfl rfl ⟨rfl, rfl, rfl, rfl, rfl⟩ rfl rfl rfl rfl rfl (by kernel_rfl) Try.func4 (by kernel_rfl)
    (of_decide_eq_true (by kernel_rfl)) (by unfold Func.isWrapper; first | (rw [if_pos (by decide +kernel)]; kernel_rfl) | (rw [if_neg (by decide +kernel)]; exact ⟨rfl, rfl⟩))
    (fun os started H enc _ => fnStable_lifted os started H enc)

theorem fnStable_proved : Rows.FnStableSaid := fnStable_over
end Go.Proofs.Ytglgmkikegbchaa
