/- FnSorted (printed by gen/sorted.py). -/
import Derived.Test.YtglgmkikegbchaaGaSort
import Derived.Test.YtglgmkikegbchaaGBS
namespace Go.Proofs.Ytglgmkikegbchaa
open Go.ChangeShapes Go.WideShapes Go.ChangeAt Go.RowKit Go.Deep Go.Sort

theorem revGo_s {α : Type} [Inhabited α] (i j : Nat) (d : Array α) (h : i < j + 1) : reverseLoop i (j + 1) d = reverseLoop (i + 1) j (swp d i (j + 1)) := by
  rw [reverseLoop, if_pos h]
  rfl
theorem revStop_s {α : Type} [Inhabited α] (i j : Nat) (d : Array α) (h : ¬ i < j) : reverseLoop i j d = d := by
  rw [reverseLoop, if_neg h]

set_option maxHeartbeats 4000000 in
set_option maxRecDepth 1000000 in
theorem fnSorted_walk (f : Int) (a : Option Addr) (cap : Nat) (d : Array It) (o : Ordr) (w : World) (h : Rd2 w a d) (hr : inR d) :
    Calls Try.prog 3 #[.int .i64 f, .slice a d.size cap, vOrd o] w fun e w' => e = .returned (.bool true) ∧ Below w.heap.size w w' := by
  obtain ⟨F, hF⟩ : ∃ F, F = fitsB d.size o := ⟨_, rfl⟩
  obtain ⟨I, hI⟩ : ∃ I, I = (o.kind != 3) := ⟨_, rfl⟩
  have hz : F = true → d.size ≤ 2000 ∧ 0 ≤ o.shift ∧ o.shift < 64 := fun e => by
    rw [e] at hF
    unfold fitsB at hF
    simp only [Bool.true_eq, Bool.and_eq_true, decide_eq_true_eq] at hF
    exact ⟨hF.1.1.1.1, hF.1.2, hF.2⟩
  have fits := fun W => fits_calls a cap d.size o W
  have isC := fun W => is_calls o W
  rw [← hF] at fits
  rw [← hI] at isC
  have WH : Aside (F = true → 0 ≤ f → f < 5 → ∀ W, Rd2 W a d → Calls Try.prog 13 #[.int .i64 f, .slice a d.size cap, vOrd o] W (WholeTo W f I (ltC (cfO o)) d.size d)) := fun e f0 f5 W hW => by
    rw [hI]; exact whole_any f a cap d o (hz e).2.1 (hz e).2.2 W hW (hz e).1 f0 f5
  have HZ : Aside (F = true → d.size ≤ 2000 ∧ 0 ≤ o.shift ∧ o.shift < 64) := hz
  have R0 : Aside (Rd2 w a d ∧ inR d) := ⟨h, hr⟩
  obtain ⟨n, hn⟩ : ∃ n, n = d.size := ⟨_, rfl⟩
  have HN : Aside (d.size = n) := hn.symm
  rw [← hn] at fits WH HZ ⊢
  clear hF hI hz h hn hr
  obtain ⟨k, s, m0, m1, m2⟩ := o
  have B0 : Aside (Below w.heap.size w (w.alloc (.cells #[.int .i64 k, .int .i64 s, .int .u64 m0, .int .u64 m1, .int .u64 m2] 26))) := below_alloc _ _
  have K0 : Aside (BoxO (w.alloc (.cells #[.int .i64 k, .int .i64 s, .int .u64 m0, .int .u64 m1, .int .u64 m2] 26)) w.heap.size ⟨k, s, m0, m1, m2⟩) := boxO_new w ⟨k, s, m0, m1, m2⟩ _
  by_cases h1 : 2147483647 < n
  · have h1z : (2147483647 : Int) < (n : Int) := by omega
    clear fits isC
    go_enter Try.func3, Try.ntmps3
    go_wp2_with fail
    go_ret
    exact ⟨rfl, B0.out⟩
  · have h1z : ¬ (2147483647 : Int) < (n : Int) := by omega
    have HF5 : Aside (f < 0 ∨ 5 ≤ f ∨ (0 ≤ f ∧ f < 5)) := by show _ ∨ _ ∨ _; omega
    go_enter Try.func3, Try.ntmps3
    go_upto_region 3 with fail
    rcases HF5.out with hf | hf | ⟨hf, hf5⟩
    · have hfd : decide (f < 0) = true := decide_eq_true hf
      go_wp2_with fail
      refine (fits _).mono ?_
      rintro e w1 ⟨rfl, hb⟩
      have B1 : Aside (Below w.heap.size w w1) := Below.next B0.out hb
      clear hb K0 B0 fits isC
      cases F
      · go_wp2_with fail
        refine (works_calls _).mono ?_
        rintro e w9 ⟨rfl, hb⟩
        go_wp2_with fail
        go_ret
        exact ⟨rfl, Below.next B1.out hb⟩
      · go_wp2_with fail
        refine (works_calls _).mono ?_
        rintro e w9 ⟨rfl, hb⟩
        go_wp2_with fail
        go_ret
        exact ⟨rfl, Below.next B1.out hb⟩
    · have hf0 : ¬ f < 0 := by omega
      have hfg : f ≥ 5 := hf
      go_wp2_with fail
      refine (fits _).mono ?_
      rintro e w1 ⟨rfl, hb⟩
      have B1 : Aside (Below w.heap.size w w1) := Below.next B0.out hb
      clear hb K0 B0 fits isC
      cases F
      · go_wp2_with fail
        refine (works_calls _).mono ?_
        rintro e w9 ⟨rfl, hb⟩
        go_wp2_with fail
        go_ret
        exact ⟨rfl, Below.next B1.out hb⟩
      · go_wp2_with fail
        refine (works_calls _).mono ?_
        rintro e w9 ⟨rfl, hb⟩
        go_wp2_with fail
        go_ret
        exact ⟨rfl, Below.next B1.out hb⟩
    · have hf0 : ¬ f < 0 := by omega
      have hfg : ¬ f ≥ 5 := by omega
      have hfg' : ¬ 5 ≤ f := by omega
      go_wp2_with fail
      refine (fits _).mono ?_
      rintro e w1 ⟨rfl, hb⟩
      have B1 : Aside (Below w.heap.size w w1) := Below.next B0.out hb
      have K1 : Aside (BoxO w1 w.heap.size ⟨k, s, m0, m1, m2⟩) := K0.out.keep hb
      clear hb K0 B0 fits
      cases F
      · clear isC
        go_wp2_with fail
        refine (works_calls _).mono ?_
        rintro e w9 ⟨rfl, hb⟩
        go_wp2_with fail
        go_ret
        exact ⟨rfl, Below.next B1.out hb⟩
      · have hw := WH.out rfl hf hf5 w1 (R0.out.1.keep B1.out)
        have HO : Aside (n ≤ 2000 ∧ 0 ≤ s ∧ s < 64) := HZ.out rfl
        clear WH HZ
        obtain ⟨_, k0, k1, k2, k3, k4⟩ := K1.out
        go_wp2_with fail
        refine hw.mono ?_
        rintro e w4 ⟨v, D, rfl, hs, hp, hA, b, bc, rfl, hb1, hb2, hb3, hb4, hb⟩
        rw [hs]
        have B4 : Aside (Below w.heap.size w w4) := Below.next B1.out hb
        have K4 : Aside (BoxO w4 w.heap.size ⟨k, s, m0, m1, m2⟩) := K1.out.keep hb
        have RD : Aside (b < w4.heap.size ∧ Holds2 w4 b 0 D) := ⟨hb2, hb4⟩
        have HA : Aside (D.size = n ∧ (I = true → (f ≠ 4 → ascB (ltC (cfO ⟨k, s, m0, m1, m2⟩)) D = true) ∧ (f = 4 → ascB (ltC (cfO ⟨k, s, m0, m1, m2⟩)) (reverseRange D 0 n) = true))) := ⟨hs, hA⟩
        have HBW : Aside (w.heap.size < b) := by show _ < _; have := K1.out.1; omega
        have hpm := permuted_calls a (some ⟨b, 0, none⟩) cap bc n d D w4 (R0.out.1.keep B4.out) (fun _ => ⟨b, 0, rfl, hb2, fun i hi => ⟨(hb4 i hi).1, (hb4 i hi).2.1⟩⟩) HN.out HO.out.1 R0.out.2 hp
        clear hw hb hb1 hb2 hb3 hb4 k0 k1 k2 k3 k4 K1 B1 hs hp hA
        go_wp2_with fail
        refine hpm.mono ?_
        rintro e w5 ⟨rfl, hb⟩
        have B5 : Aside (Below w.heap.size w w5) := Below.next B4.out hb
        have K5 : Aside (BoxO w5 w.heap.size ⟨k, s, m0, m1, m2⟩) := K4.out.keep hb
        have RE : Aside (b < w5.heap.size ∧ Holds2 w5 b 0 D) := ⟨Nat.lt_of_lt_of_le RD.out.1 hb.size, Holds2_of_block (hb.block b RD.out.1) RD.out.2⟩
        clear hpm hb B4 K4 RD
        obtain ⟨_, k0, k1, k2, k3, k4⟩ := K5.out
        go_wp2_with fail
        refine (isC _).mono ?_
        rintro e w6 ⟨rfl, hb⟩
        have B6 : Aside (Below w.heap.size w w6) := Below.next B5.out hb
        have K6 : Aside (BoxO w6 w.heap.size ⟨k, s, m0, m1, m2⟩) := K5.out.keep hb
        have S6 : Aside (St2 w6 b 0 D w6) := ⟨Holds2_of_block (hb.block b RE.out.1) RE.out.2, Nat.lt_of_lt_of_le RE.out.1 hb.size, World.grownBy.refl _ _⟩
        clear hb B5 K5 RE isC k0 k1 k2 k3 k4
        cases I
        · clear K6 S6
          go_wp2_with fail
          refine (works_calls _).mono ?_
          rintro e w9 ⟨rfl, hb⟩
          go_wp2_with fail
          go_ret
          exact ⟨rfl, Below.next B6.out hb⟩
        · by_cases hf4 : f = 4
          · subst hf4
            have hasc2 := (HA.out.2 rfl).2 rfl
            have HS : Aside (ascB (ltC (cfO ⟨k, s, m0, m1, m2⟩)) (reverseRange D 0 n) = true) := hasc2
            have HR : Aside (reverseLoop 0 (n - 1) D = reverseRange D 0 n) := rfl
            have HD : Aside (D.size = n) := HA.out.1
            generalize reverseRange D 0 n = R at HS HR
            clear hasc2 HA
            by_cases hn0 : n = 0
            · subst hn0
              have eR : R = D := by rw [← HR.out, revStop_s _ _ _ (by omega)]
              subst eR
              have hasc := asc_calls (some ⟨b, 0, none⟩) bc 0 R ⟨k, s, m0, m1, m2⟩ w6 (fun h => absurd h (by rw [HD.out]; omega)) HD.out (by omega) HO.out.2.1 HO.out.2.2
              rw [HS.out] at hasc
              obtain ⟨_, k0, k1, k2, k3, k4⟩ := K6.out
              have w0 : IntKind.i64.wrap (0 - 1) = -1 := by decide
              go_upto_region 13 with fail
              refine wp_loop_rounds 1 ?_
              rw [rounds_succ]
              go_wp2_with fail
              refine hasc.mono ?_
              rintro e w7 ⟨rfl, hb⟩
              have B7 : Aside (Below w.heap.size w w7) := Below.next B6.out hb
              clear hb hasc k0 k1 k2 k3 k4 K6 B6
              go_wp2_with fail
              refine (works_calls _).mono ?_
              rintro e w9 ⟨rfl, hb⟩
              go_wp2_with fail
              go_ret
              exact ⟨rfl, Below.next B7.out hb⟩
            · obtain ⟨np, rfl⟩ : ∃ np, n = np + 1 := ⟨n - 1, by omega⟩
              rw [Nat.add_sub_cancel] at HR
              have hsz : np ≤ 2000 := by have := HO.out.1; omega
              clear hn0
              go_wp2_with fail
              go_loopg [9, 10] np (fun g vi vj wr => ∃ (i j : Nat) (dk : Array It), vi = .int .i64 i ∧ vj = .int .i64 j ∧ i ≤ j + 1 ∧ j < np + 1 ∧ j - i ≤ g ∧ dk.size = np + 1 ∧ Aside (St2 w6 b 0 dk wr) ∧ Aside (reverseLoop i j dk = R))
              case atStart => exact ⟨0, np, D, rfl, by go_num, by omega, by omega, by omega, HD.out, S6, HR⟩
              case round =>
                obtain ⟨i, j, dk, rfl, rfl, hij, hj, hg, hsk, Sk, HL⟩ := hrel
                by_cases hlt : i < j
                · obtain ⟨jp, rfl⟩ : ∃ jp, j = jp + 1 := ⟨j - 1, by omega⟩
                  have hltz : (i : Int) < (jp : Int) + 1 := by omega
                  have bi1 : (i : Int) < (np : Int) + 1 := by omega
                  have ri1 : IntKind.i64.wrap ((i : Int)) = (i : Int) := by rw [IntKind.wrap_i64]; omega
                  have bj1 : (jp : Int) + 1 < (np : Int) + 1 := by omega
                  have bj2 : (jp : Int) < (np : Int) := by omega
                  have rj1 : IntKind.i64.wrap ((jp : Int) + 1) = (jp : Int) + 1 := by rw [IntKind.wrap_i64]; omega
                  have pj1 : (0 : Int) ≤ (jp : Int) + 1 := by omega
                  have ej1 : ((jp : Int) + 1).toNat = jp + 1 := by omega
                  obtain ⟨⟨x1, x2⟩, hx⟩ : ∃ x : It, x = dk[i]! := ⟨_, rfl⟩
                  obtain ⟨⟨y1, y2⟩, hy⟩ : ∃ y : It, y = dk[jp + 1]! := ⟨_, rfl⟩
                  obtain ⟨c11, c12, f11, f12⟩ := Sk.out.holds (i) (by omega)
                  obtain ⟨c21, c22, f21, f22⟩ := Sk.out.holds (jp + 1) (by omega)
                  rw [← hx] at c11 c12
                  rw [← hy] at c21 c22
                  dsimp only at c11 c12 c21 c22
                  obtain ⟨u3, g3⟩ := Sk.out.third (i) (jp + 1) (by omega) (by omega) (.int .i64 y1) (.int .i64 y2)
                  obtain ⟨u4, g4⟩ := Sk.out.fourth (i) (jp + 1) (by omega) (by omega) (.int .i64 y1) (.int .i64 y2) (.int .i64 x1)
                  have S2 : Aside _ := (Sk.out.swap (by omega) (by omega) hx hy).drew
                  dsimp only at S2
                  simp only [Nat.zero_add] at c11 c12 c21 c22 f11 f12 f21 f22 g3 g4 S2
                  clear hx hy
                  go_wp2_with fail
                  go_region
                  clear c11 c12 c21 c22 f11 f12 f21 f22 g3 g4
                  generalize ((((wr.setCell ⟨b, i * 2, none⟩ (.int .i64 y1)).setCell ⟨b, i * 2 + 1, none⟩ (.int .i64 y2)).setCell ⟨b, (jp + 1) * 2, none⟩ (.int .i64 x1)).setCell ⟨b, (jp + 1) * 2 + 1, none⟩ (.int .i64 x2)).drew = w2 at S2 ⊢
                  clear bi1 ri1 bj1 rj1 pj1 ej1 bj2
                  go_wp2_with fail
                  go_roundg (jp - (i + 1))
                  case measure => omega
                  case rel => exact ⟨i + 1, jp, swp dk i (jp + 1), by go_num, by go_num, by omega, by omega, by omega, by rw [size_swp]; exact hsk, S2, (revGo_s _ _ _ hlt).symm.trans HL.out⟩
                · have hltz : ¬ (i : Int) < (j : Int) := by omega
                  have eR : dk = R := by rw [← HL.out, revStop_s _ _ _ hlt]
                  subst eR
                  have B7 : Aside (Below w.heap.size w wr) := below_grownBy B6.out Sk.out.grown B6.out.size (Nat.le_of_lt HBW.out)
                  have kk : ∀ i, wr.cell? ⟨w.heap.size, i, none⟩ = w6.cell? ⟨w.heap.size, i, none⟩ := fun i => kept_cell Sk.out.grown (p := ⟨w.heap.size, i, none⟩) K6.out.1 (by intro e; have h := HBW.out; simp only [Option.some.injEq] at e; omega)
                  obtain ⟨_, k0, k1, k2, k3, k4⟩ := K6.out
                  have l0 := (kk 0).trans k0
                  have l1 := (kk 1).trans k1
                  have l2 := (kk 2).trans k2
                  have l3 := (kk 3).trans k3
                  have l4 := (kk 4).trans k4
                  have hasc := asc_calls (some ⟨b, 0, none⟩) bc (np + 1) dk ⟨k, s, m0, m1, m2⟩ wr (fun _ => ⟨b, 0, rfl, Sk.out.lt, fun i hi => ⟨(Sk.out.holds i hi).1, (Sk.out.holds i hi).2.1⟩⟩) hsk (by omega) HO.out.2.1 HO.out.2.2
                  rw [HS.out] at hasc
                  clear kk k0 k1 k2 k3 k4 K6 S6 B6
                  go_wp2_with fail
                  refine hasc.mono ?_
                  rintro e w8 ⟨rfl, hb⟩
                  have B8 : Aside (Below w.heap.size w w8) := Below.next B7.out hb
                  clear hb hasc l0 l1 l2 l3 l4 B7
                  go_wp2_with fail
                  refine (works_calls _).mono ?_
                  rintro e w9 ⟨rfl, hb⟩
                  go_wp2_with fail
                  go_ret
                  exact ⟨rfl, Below.next B8.out hb⟩
          · have hasc2 := (HA.out.2 rfl).1 hf4
            have hasc := asc_calls (some ⟨b, 0, none⟩) bc n D ⟨k, s, m0, m1, m2⟩ w6 (fun _ => ⟨b, 0, rfl, S6.out.lt, fun i hi => ⟨(S6.out.holds i hi).1, (S6.out.holds i hi).2.1⟩⟩) HA.out.1 (by have := HO.out.1; omega) HO.out.2.1 HO.out.2.2
            rw [hasc2] at hasc
            have hb4 : (f == 4) = false := beq_eq_false_iff_ne.2 hf4
            have hb4' : (f != 4) = true := bne_iff_ne.2 hf4
            obtain ⟨_, k0, k1, k2, k3, k4⟩ := K6.out
            clear hasc2 S6
            go_wp2_with fail
            refine hasc.mono ?_
            rintro e w7 ⟨rfl, hb⟩
            have B7 : Aside (Below w.heap.size w w7) := Below.next B6.out hb
            clear hb hasc k0 k1 k2 k3 k4 K6 B6
            go_wp2_with fail
            refine (works_calls _).mono ?_
            rintro e w9 ⟨rfl, hb⟩
            go_wp2_with fail
            go_ret
            exact ⟨rfl, Below.next B7.out hb⟩

set_option maxRecDepth 100000 in
theorem fnSorted_lifted (os : Os) (started : os.Started) (H : Type) (enc : TypeId × Value → H) :
    ReturnsInHanded {} Try.checked os 3 .any (Rows.fnSortedSpec.pre6 enc Try.prog Try.f3 Rows.fnSortedRow.domain false) (Rows.fnSortedSpec.post enc Try.prog Try.f3 false true false false) := by
  refine returnsInHanded_of_change (C := Try.checked) own started (by kernel_rfl) Try.func3
    (ChangeSpec.witness6 (enc := enc) (C := Try.checked) false ⟨#[], #[.int .i64 0, .slice none 0 0, .agg #[.int .i64 0, .int .i64 0, .int .u64 0, .int .u64 0, .int .u64 0]], []⟩ 8 (by kernel_rfl) (by kernel_rfl) (by kernel_rfl) (by kernel_rfl)) ?_
  intro W base args ds gs before hval0 hW _ _
  have hval : ∀ (j : Nat) t v, Try.f3.params[j]? = some t → args[j]? = some v → Value.okWide Try.prog W .any base t v := hval0
  have hW' := hW
  obtain ⟨p, q, hA0, hV, rfl, _, _⟩ := hW
  have hA : DataW.TrodAll enc Try.prog W 0 (fun _ => true) true Try.f3.params.toList args.toList ds p := hA0
  rw [Try.params3] at hA hval
  obtain ⟨v0, vs0, d0, ds0, p0, q0, hargs, rfl, rfl, h0, r0⟩ := trodAll_cons hA
  obtain ⟨v1, vs1, d1, ds1, p1, q1, rfl, rfl, rfl, h1, r1⟩ := trodAll_cons r0
  obtain ⟨v2, vs2, d2, ds2, p2, q2, rfl, rfl, rfl, h2, r2⟩ := trodAll_cons r1
  obtain ⟨rfl, rfl, rfl⟩ := trodAll_nil r2
  obtain rfl : args = #[v0, v1, v2] := by cases args; simp_all
  obtain ⟨f, rfl, _, _⟩ := open_i64 Try.underlying3 (hval 0 3 v0 rfl rfl)
  obtain ⟨a, len, cap, rfl⟩ := okWide_slice Try.underlying22 (hval 1 22 v1 rfl rfl)
  obtain ⟨o, rfl, _⟩ := open_order (hval 2 26 v2 rfl rfl)
  obtain ⟨fuel, hf⟩ := h1
  obtain ⟨d, rfl, hArg, hIn, _⟩ := open_items hf
  refine (fnSorted_walk f a cap d o W hArg (fun i hi => ⟨WalkArith.wf_i64 ⟨(hIn i hi).1, (hIn i hi).2.1⟩, WalkArith.wf_i64 ⟨(hIn i hi).2.2.1, (hIn i hi).2.2.2⟩⟩)).mono fun e W' ⟨he, hB⟩ => ?_
  subst he
  exact ⟨_, rfl, post_true hW' rfl (by rw [Try.params3]; decide) rfl rfl hB⟩

theorem fnSorted_over : Rows.fnSortedRow.holds Try.pinned (OpenSpec.ofChange Rows.fnSortedSpec) :=
  OpenClaim.holds_of_wide 3 Try.f3 rfl rfl rfl rfl rfl rfl rfl ⟨rfl, rfl, rfl, rfl, rfl⟩ rfl rfl rfl rfl rfl (by kernel_rfl) Try.func3 (by kernel_rfl)
    (of_decide_eq_true (by kernel_rfl)) (by unfold Func.isWrapper; first | (rw [if_pos (by decide +kernel)]; kernel_rfl) | (rw [if_neg (by decide +kernel)]; exact ⟨rfl, rfl⟩))
    (fun os started H enc _ => fnSorted_lifted os started H enc)

theorem fnSorted_proved : Rows.FnSortedSaid := fnSorted_over
end Go.Proofs.Ytglgmkikegbchaa
