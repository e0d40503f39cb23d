/- FnSwapRange. -/
import Derived.Test.YtglgmkikegbchaaGreatzLaw
import Derived.Test.YtglgmkikegbchaaGreatzBySwapRange
import Derived.Test.YtglgmkikegbchaaGreatzDSwapRange
import Derived.Test.YtglgmkikegbchaaGreatJoin
namespace Go.Proofs.YtglgmkikegbchaaGreat
open Go.ChangeShapes Go.WideShapes Go.ChangeAt Go.RowKit Go.Deep Go.Sort

theorem many_13 (W : World) : Calls Tryz.prog 40 #[.int .i64 13] W fun e w' => e = .returned (.int .i64 ((3 : Nat) : Int)) ∧ w' = W := by
  go_enter Tryz.func40, Tryz.ntmps40
  go_wp2
  go_ret
  exact ⟨rfl, rfl⟩

theorem bare_swapLoop (a b : Nat) : ∀ (k i : Nat) (ks : Array Int), a + i + k ≤ ks.size → b + i + k ≤ ks.size → bare (swapLoop a b k i ks) = swapLoop a b k i (bare ks)
  | 0, _, _, _, _ => rfl
  | k + 1, i, ks, h1, h2 => by
    rw [swapLoop, swapLoop, bare_swapLoop a b k (i + 1) _ (by rw [size_swp]; omega) (by rw [size_swp]; omega), bare_swp _ _ _ (by omega) (by omega)]

theorem swapLoop_size (a b : Nat) : ∀ (k i : Nat) (d : Array It), (swapLoop a b k i d).size = d.size
  | 0, _, _ => rfl
  | k + 1, i, d => by rw [swapLoop, swapLoop_size a b k, size_swp]
theorem swapRange_size (d : Array It) (a b c : Nat) : (swapRange d a b c).size = d.size := swapLoop_size a b c 0 d

theorem open_arg {H : Type} {enc : TypeId × Value → H} {W : World} {fuel : Nat} {a : Option Addr} {len cap : Nat} {x : DataW H × List MemPlace} (h : DataW.trod enc Tryz.prog W 0 (fun _ => true) true fuel 22 [.slice a len cap] = some x) :
    ∃ d : Array It, len = d.size ∧ Arg W a cap d ∧ inR d := by
  obtain ⟨d, hd, hr, hb, _⟩ := open_items h
  have hc : d.size ≤ cap ∧ (a = none → d.size = 0 ∧ cap = 0) := by
    rcases open_slice_pairs Tryz.underlying22 Tryz.underlying49 (by kernel_rfl) rfl rfl (by kernel_rfl) (by kernel_rfl) h with ⟨hc, _⟩ | ⟨a', len', cap', m, n, V0, V1, D0, D1, P0, P1, hc, _, hl, hm, hmm, _, hall⟩
    · simp only [List.cons.injEq, and_true, Value.slice.injEq] at hc
      obtain ⟨rfl, rfl, rfl⟩ := hc
      exact ⟨by omega, fun _ => ⟨hd, rfl⟩⟩
    · simp only [List.cons.injEq, and_true, Value.slice.injEq] at hc
      obtain ⟨rfl, rfl, rfl⟩ := hc
      exact ⟨by omega, fun h => by cases h⟩
  exact ⟨d, hd.symm, ⟨hr, hc.1, hc.2⟩, fun i hi => by
    obtain ⟨h1, h2, h3, h4⟩ := hb i (by omega)
    exact ⟨WalkArith.wf_i64 ⟨h1, h2⟩, WalkArith.wf_i64 ⟨h3, h4⟩⟩⟩

theorem numbers_swapRange (m : Int) (x y z : Int) : ∃ OK : Bool, (OK = true → (in2k x ∧ in2k y ∧ in2k z) ∧ min x y + z ≤ max x y ∧ max x y + z ≤ m) ∧
    ∀ (na : Option Addr) (ncap : Nat) (W : World), RdN W na #[x, y, z] → Calls Tryz.prog 26 #[.int .i64 13, .int .i64 m, .slice na 3 ncap] W fun e w' => ∃ u v, e = .returned (.tuple #[u, v, .bool OK]) ∧ Below W.heap.size W w' := by
  by_cases h : in2k x ∧ in2k y ∧ in2k z
  · refine ⟨decide (min x y + z ≤ max x y) && decide (max x y + z ≤ m), fun e => ?_, fun na ncap W hN => (numbers_13 m na ncap x y z W hN h.1 h.2.1 h.2.2).mono fun e w' ⟨h1, h2⟩ => ⟨_, _, h1, h2⟩⟩
    simp only [Bool.and_eq_true, decide_eq_true_eq] at e
    exact ⟨h, e⟩
  · refine ⟨false, fun e => (by cases e), fun na ncap W hN => (numbers_bad 13 m na ncap 3 #[x, y, z] W hN rfl (by decide) (by decide) (Or.inr (Or.inr (Or.inr ?_)))).mono fun e w' ⟨h1, h2⟩ => ⟨_, _, h1, h2⟩⟩
    by_cases hx : in2k x
    · by_cases hy : in2k y
      · exact ⟨2, by omega, fun hzz => h ⟨hx, hy, hzz⟩⟩
      · exact ⟨1, by omega, hy⟩
    · exact ⟨0, by omega, hx⟩

set_option maxHeartbeats 4000000 in
set_option maxRecDepth 1000000 in
theorem fnSwapRange_walk (t : Int) (a : Option Addr) (cap : Nat) (d : Array It) (o : Ordr) (x y z : Int) (w : World) (h : Arg w a cap d) (hr : inR d) :
    Calls Tryz.prog 3 #[.int .i64 t, .slice a d.size cap, vOrd o, .int .i64 x, .int .i64 y, .int .i64 z] w fun e w' => e = .returned (.bool true) ∧ Below w.heap.size w w' := by
  obtain ⟨n, hn⟩ : ∃ n, n = d.size := ⟨_, rfl⟩
  rw [← hn]
  obtain ⟨k, s, m0, m1, m2⟩ := o
  by_cases h1 : 2147483647 < n
  · have h1z : (2147483647 : Int) < (n : Int) := by omega
    have B0 : Aside (Below w.heap.size w (w.alloc (.cells #[.int .i64 k, .int .i64 s, .int .u64 m0, .int .u64 m1, .int .u64 m2] 26))) := below_alloc _ _
    clear hn
    go_enter Tryz.func3, Tryz.ntmps3
    go_wp2_with fail
    go_ret
    exact ⟨rfl, B0.out⟩
  · have h1z : ¬ (2147483647 : Int) < (n : Int) := by omega
    obtain ⟨U, hU⟩ : ∃ U, U = (w.alloc (.cells #[.int .i64 k, .int .i64 s, .int .u64 m0, .int .u64 m1, .int .u64 m2] 26)).alloc (.cells #[.int .i64 x, .int .i64 y, .int .i64 z] 3) := ⟨_, rfl⟩
    have BU : Below w.heap.size w U := by rw [hU]; exact Below.next (below_alloc _ _) (below_alloc _ _)
    have hnum : U.heap[w.heap.size + 1]? = some (.cells #[.int .i64 x, .int .i64 y, .int .i64 z] 3 (0, 0)) := by rw [hU]; have := heap_alloc_new (w.alloc (.cells #[.int .i64 k, .int .i64 s, .int .u64 m0, .int .u64 m1, .int .u64 m2] 26)) (.cells #[.int .i64 x, .int .i64 y, .int .i64 z] 3); simpa using this
    have hN : RdN U (some ⟨w.heap.size + 1, 0, none⟩) #[x, y, z] := fun _ => ⟨_, 0, rfl, by rw [hU]; simp, fun i hi => by
      have h3 : i < 3 := hi
      rcases (show i = 0 ∨ i = 1 ∨ i = 2 by omega) with rfl | rfl | rfl
      · exact cell_at hnum rfl
      · exact cell_at hnum rfl
      · exact cell_at hnum rfl⟩
    obtain ⟨OK, hOK, HNum⟩ := numbers_swapRange (d.size : Int) x y z
    have hfacts : OK = true → ∃ X Y Z : Nat, x = X ∧ y = Y ∧ z = Z ∧ X + Z ≤ d.size ∧ Y + Z ≤ d.size ∧ (∃ lo hi, ((lo = X ∧ hi = Y) ∨ (lo = Y ∧ hi = X)) ∧ lo + Z ≤ hi ∧ hi + Z ≤ d.size) := fun e => by
      obtain ⟨⟨⟨x0, _⟩, ⟨y0, _⟩, ⟨z0, _⟩⟩, e1, e2⟩ := hOK e
      obtain ⟨X, rfl⟩ := Int.eq_ofNat_of_zero_le x0
      obtain ⟨Y, rfl⟩ := Int.eq_ofNat_of_zero_le y0
      obtain ⟨Z, rfl⟩ := Int.eq_ofNat_of_zero_le z0
      refine ⟨X, Y, Z, rfl, rfl, rfl, by omega, by omega, ?_⟩
      by_cases hxy : X ≤ Y
      · exact ⟨X, Y, Or.inl ⟨rfl, rfl⟩, by omega, by omega⟩
      · exact ⟨Y, X, Or.inr ⟨rfl, rfl⟩, by omega, by omega⟩
    have hsz : fitsB d.size ⟨k, s, m0, m1, m2⟩ = true → d.size ≤ 2000 ∧ 0 ≤ s ∧ s < 64 := fun e => by
      unfold fitsB at e
      simp only [Bool.and_eq_true, decide_eq_true_eq] at e
      exact ⟨e.1.1.1.1, e.1.2, e.2⟩
    have D := does_calls t 13 a (some ⟨w.heap.size + 1, 0, none⟩) cap 3 3 d (swapRange d x.toNat y.toNat z.toNat) ⟨k, s, m0, m1, m2⟩ #[x, y, z] #[] OK true U (h.rd.keep BU) hN (fun W hW => HNum _ _ W hW)
      (fun _ _ _ W _ _ => ready_plain 13 (by decide) (by decide) (by decide) (by decide) (by decide) _ _ _ _ _ _ _ W)
      (fun e1 _ e2 _ e3 W hA hB => by
        obtain ⟨X, Y, Z, rfl, rfl, rfl, g1, g2, _⟩ := hfacts e1
        obtain ⟨z1, z2, z3⟩ := hsz e2
        have HO := cmpC_of ⟨k, s, m0, m1, m2⟩ z2 z3
        simp only [Int.toNat_natCast]
        refine inner_any t 13 a cap d _ _ _ 3 3 _ #[] W hA hB z1 (swapRange_size d X Y Z) e3 many_13 (fun W b c hb hH hN => by_swapRange_c _ HO b c d.size 3 _ d X Y Z rfl (by omega) g1 g2 W hb hH hN) (fun W b c hb hH hN => by_swapRange_f _ HO b c d.size 3 _ d X Y Z rfl (by omega) g1 g2 W hb hH hN) (fun _ ks ek => ?_)
        rw [ek, bare_size] at g1 g2
        exact ⟨swapRange ks X Y Z, by rw [ek]; exact (bare_swapLoop X Y Z 0 ks (by omega) (by omega)).symm, fun W b c hb hH hN => by_swapRange_o b c ks.size 3 _ ks X Y Z rfl (by rw [ek, bare_size] at z1; omega) g1 g2 W hb hH hN⟩)
      (fun e1 _ e2 _ _ W b bcap ra rcap hA hB hb hbc hH _ => by
        obtain ⟨X, Y, Z, rfl, rfl, rfl, g1, g2, lo, hi, g3, g4, g5⟩ := hfacts e1
        obtain ⟨z1, _, _⟩ := hsz e2
        simp only [Int.toNat_natCast] at hH hbc ⊢
        have hsp := swapRange_spec d X Y Z (by rcases g3 with ⟨rfl, rfl⟩ | ⟨rfl, rfl⟩ <;> omega) g1 g2
        rw [swapRange_size d X Y Z]
        have hs2 := swapRange_size d X Y Z
        exact done_swapRange a _ ra cap d.size 3 b bcap rcap lo hi d (swapRange d X Y Z) ⟨k, s, m0, m1, m2⟩ X Y Z W ⟨hA, h.le, h.nil⟩ rfl z1 hr hB hb hH (by rw [hs2] at hbc; exact hbc) g3 g4 g5 (swapRange_perm lo (hi + Z) d X Y Z (by rcases g3 with ⟨rfl, rfl⟩ | ⟨rfl, rfl⟩ <;> omega) (by rcases g3 with ⟨rfl, rfl⟩ | ⟨rfl, rfl⟩ <;> omega) (by rcases g3 with ⟨rfl, rfl⟩ | ⟨rfl, rfl⟩ <;> omega) (by rcases g3 with ⟨rfl, rfl⟩ | ⟨rfl, rfl⟩ <;> omega) g5) hsp.2)
    rw [← hn] at D
    have BA : Aside (Below w.heap.size w U) := BU
    have hU' := hU
    clear hfacts hsz hN hnum BU HNum hOK hU hn
    go_enter Tryz.func3, Tryz.ntmps3
    rw [hU'] at D
    go_wp2_with fail
    refine D.mono ?_
    rintro e w2 ⟨rfl, hb⟩
    rw [← hU'] at hb
    clear hU' D
    go_wp2_with fail
    go_ret
    exact ⟨rfl, Below.next BA.out hb⟩

set_option maxRecDepth 100000 in
theorem fnSwapRange_lifted (os : Os) (started : os.Started) (H : Type) (enc : TypeId × Value → H) :
    ReturnsInHanded {} Tryz.checked os 3 .any (Rows.fnSwapRangeSpec.pre6 enc Tryz.prog Tryz.f3 Rows.fnSwapRangeRow.domain false) (Rows.fnSwapRangeSpec.post enc Tryz.prog Tryz.f3 false true false false) := by
  refine returnsInHanded_of_change (C := Tryz.checked) own started (by kernel_rfl) Tryz.func3
    (ChangeSpec.witness6 (enc := enc) (C := Tryz.checked) false ⟨#[], #[.int .i64 0, .slice none 0 0, .agg #[.int .i64 0, .int .i64 0, .int .u64 0, .int .u64 0, .int .u64 0], .int .i64 0, .int .i64 0, .int .i64 0], []⟩ 8 (by kernel_rfl) (by kernel_rfl) (by kernel_rfl) (by kernel_rfl)) ?_
  intro W base args ds gs before hval0 hW _ _
  have hval : ∀ (j : Nat) t v, Tryz.f3.params[j]? = some t → args[j]? = some v → Value.okWide Tryz.prog W .any base t v := hval0
  have hW' := hW
  obtain ⟨p, q, hA0, hV, rfl, _, _⟩ := hW
  have hA : DataW.TrodAll enc Tryz.prog W 0 (fun _ => true) true Tryz.f3.params.toList args.toList ds p := hA0
  rw [Tryz.params3] at hA hval
  obtain ⟨v0, vs0, d0, ds0, p0, q0, hargs, rfl, rfl, h0, r0⟩ := trodAll_cons hA
  obtain ⟨v1, vs1, d1, ds1, p1, q1, rfl, rfl, rfl, h1, r1⟩ := trodAll_cons r0
  obtain ⟨v2, vs2, d2, ds2, p2, q2, rfl, rfl, rfl, h2, r2⟩ := trodAll_cons r1
  obtain ⟨v3, vs3, d3, ds3, p3, q3, rfl, rfl, rfl, h3, r3⟩ := trodAll_cons r2
  obtain ⟨v4, vs4, d4, ds4, p4, q4, rfl, rfl, rfl, h4, r4⟩ := trodAll_cons r3
  obtain ⟨v5, vs5, d5, ds5, p5, q5, rfl, rfl, rfl, h5, r5⟩ := trodAll_cons r4
  obtain ⟨rfl, rfl, rfl⟩ := trodAll_nil r5
  obtain rfl : args = #[v0, v1, v2, v3, v4, v5] := by cases args; simp_all
  obtain ⟨t, rfl, _, _⟩ := open_i64 Tryz.underlying3 (hval 0 3 v0 rfl rfl)
  obtain ⟨a, len, cap, rfl⟩ := okWide_slice Tryz.underlying22 (hval 1 22 v1 rfl rfl)
  obtain ⟨o, rfl, _⟩ := open_order (hval 2 26 v2 rfl rfl)
  obtain ⟨x, rfl, _, _⟩ := open_i64 Tryz.underlying3 (hval 3 3 v3 rfl rfl)
  obtain ⟨y, rfl, _, _⟩ := open_i64 Tryz.underlying3 (hval 4 3 v4 rfl rfl)
  obtain ⟨z, rfl, _, _⟩ := open_i64 Tryz.underlying3 (hval 5 3 v5 rfl rfl)
  obtain ⟨fuel, hf⟩ := h1
  obtain ⟨d, rfl, hArg, hIn⟩ := open_arg hf
  refine (fnSwapRange_walk t a cap d o x y z W hArg hIn).mono fun e W' ⟨he, hB⟩ => ?_
  subst he
  exact ⟨_, rfl, post_true hW' rfl (by rw [Tryz.params3]; decide) rfl rfl hB⟩

theorem fnSwapRange_over : Rows.fnSwapRangeRow.holds Tryz.pinned (OpenSpec.ofChange Rows.fnSwapRangeSpec) :=
  OpenClaim.holds_of_wide 3 Tryz.f3 rfl rfl rfl rfl rfl rfl rfl ⟨rfl, rfl, rfl, rfl, rfl⟩ rfl rfl rfl rfl rfl (by kernel_rfl) Tryz.func3 (by kernel_rfl)
    (of_decide_eq_true (by kernel_rfl)) (by unfold Func.isWrapper; first | (rw [if_pos (by decide +kernel)]; kernel_rfl) | (rw [if_neg (by decide +kernel)]; exact ⟨rfl, rfl⟩))
    (fun os started H enc _ => fnSwapRange_lifted os started H enc)

theorem fnSwapRange_proved : Rows.FnSwapRangeSaid := fnSwapRange_over
end Go.Proofs.YtglgmkikegbchaaGreat
