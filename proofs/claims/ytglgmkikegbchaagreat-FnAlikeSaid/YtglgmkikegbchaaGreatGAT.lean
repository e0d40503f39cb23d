/- Texts of this claim, laid together: zAlk, zOpenN, zAlkAll, zFnAlike. -/
import Derived.Test.YtglgmkikegbchaaGreatGBS
import Derived.Test.YtglgmkikegbchaaGreatGOK
import Derived.Test.YtglgmkikegbchaaGreatGBA
import Derived.Test.YtglgmkikegbchaaGreatGBB
import Derived.Test.YtglgmkikegbchaaGreatGBC
/- laws.equal; laws.FnAlike, out of the contracts of Numbers and Inner. -/
namespace Go.Proofs.YtglgmkikegbchaaGreat
open Go.RowKit Go.Sort

set_option maxHeartbeats 2000000 in
set_option maxRecDepth 1000000 in
theorem equal_calls (a a' : Option Addr) (cap cap' n : Nat) (d : Array Int) (w : World) (h : RdN w a d) (h' : RdN w a' d) (hn : d.size = n) (hsz : n ≤ 2000) :
    Calls Tryz.prog 31 #[.slice a n cap, .slice a' n cap'] w fun e w' => e = .returned (.bool true) ∧ ∃ q, w' = w.drewN q := by
  have H : Aside (RdN w a d) := h
  have H' : Aside (RdN w a' d) := h'
  have N : Aside (d.size = n) := hn
  clear h h' hn
  go_enter Tryz.func31, Tryz.ntmps31
  go_wp2_with fail
  go_loopg [13] n (fun g v wr => ∃ (i q : Nat), v = .int .i64 i ∧ i ≤ n ∧ n - i ≤ g ∧ wr = w.drewN q)
  case atStart => exact ⟨0, 0, rfl, Nat.zero_le _, by omega, rfl⟩
  case round =>
    obtain ⟨i, q, rfl, hin, hg, rfl⟩ := hrel
    by_cases hlt : i < n
    · have hltz : (i : Int) < (n : Int) := by omega
      have hN := N.out
      obtain ⟨blk, off, rfl, _, hc⟩ := H.out (by omega)
      obtain ⟨blk', off', rfl, _, hc'⟩ := H'.out (by omega)
      obtain ⟨x, hx⟩ : ∃ x : Int, x = d[i]! := ⟨_, rfl⟩
      have c1 := hc i (by omega)
      have c2 := hc' i (by omega)
      rw [← hx] at c1 c2
      have q1 := fun k => (World.cell?_drewN w k ⟨blk, off + i, none⟩).trans c1
      have q2 := fun k => (World.cell?_drewN w k ⟨blk', off' + i, none⟩).trans c2
      clear hc hc' c1 c2 hx hN
      go_wp2_with fail
      go_quiet (fail)
      go_wp2_with fail
      go_roundg (n - (i + 1))
      case measure => omega
      case rel => exact ⟨i + 1, q + nq, by go_num, by omega, by omega, rfl⟩
    · have hltz : ¬ (i : Int) < (n : Int) := by omega
      go_wp2_with fail
      go_ret
      exact ⟨rfl, q, rfl⟩

set_option maxHeartbeats 4000000 in
set_option maxRecDepth 1000000 in
theorem alk_calls (f : Int) (a na : Option Addr) (cap n ncap : Nat) (d d' e' : Array It) (o : Ordr) (ns nums mums : Array Int) (OK : Bool) (w : World) (h : Arg w a cap d) (hN : RdN w na ns) (hm1 : d.size ≤ 2147483647) (hm2 : n ≤ 2147483647) (hnum : nums.size ≤ 2000) (hmum : mums.size ≤ 2000)
    (HN : ∀ W, RdN W na ns → Calls Tryz.prog 26 #[.int .i64 f, .int .i64 d.size, .slice na n ncap] W fun e w' => ∃ u v, e = .returned (.tuple #[u, v, .bool OK]) ∧ Below W.heap.size W w')
    (HI : OK = true → fitsB d.size o = true → d'.size = d.size ∧ ∀ t : Int, t = 0 ∨ t = 1 → ∀ W, Rd2 W a d → RdN W na ns → Calls Tryz.prog 28 #[.int .i64 t, .int .i64 f, .slice a d.size cap, vOrd o, .slice na n ncap] W (InnerTo W d' nums))
    (HU : OK = true → fitsB d.size o = true → e'.size = d.size ∧ ∀ t : Int, t = 0 ∨ t = 2 → ∀ W pa pc, Rd2 W pa (untag d.toList).toArray → RdN W na ns → Calls Tryz.prog 28 #[.int .i64 t, .int .i64 f, .slice pa d.size pc, vOrd ⟨0, 0, 0, 0, 0⟩, .slice na n ncap] W (InnerTo W e' mums)) :
    Calls Tryz.prog 6 #[.int .i64 f, .slice a d.size cap, vOrd o, .slice na n ncap] w fun e w' => e = .returned (.bool true) ∧ Below w.heap.size w w' := by
  obtain ⟨m, hm⟩ : ∃ m, m = d.size := ⟨_, rfl⟩
  obtain ⟨k, s, m0, m1, m2⟩ := o
  obtain ⟨F, hF⟩ : ∃ F, F = fitsB d.size ⟨k, s, m0, m1, m2⟩ := ⟨_, rfl⟩
  have fits := fun W => fits_calls a cap d.size ⟨k, s, m0, m1, m2⟩ W
  rw [← hF] at fits HI HU
  have hz : F = true → d.size ≤ 2000 := fun e => by
    rw [e] at hF
    unfold fitsB at hF
    simp only [Bool.true_eq, Bool.and_eq_true, decide_eq_true_eq] at hF
    exact hF.1.1.1.1
  have SM : Aside (∀ (W : World) (c : Array It) (b1 b2 c1 c2 : Nat), F = true → c.size = m → b1 < W.heap.size → b2 < W.heap.size → Holds2 W b1 0 c → Holds2 W b2 0 c → Calls Tryz.prog 30 #[.slice (some ⟨b1, 0, none⟩) m c1, .slice (some ⟨b2, 0, none⟩) m c2] W fun e w' => e = .returned (.bool true) ∧ ∃ q, w' = W.drewN q) := fun W c b1 b2 c1 c2 hf hc h1 h2 H1 H2 => by
    have := same_calls (some ⟨b1, 0, none⟩) (some ⟨b2, 0, none⟩) c1 c2 c c W (fun _ => ⟨b1, 0, rfl, h1, fun i hi => ⟨(H1 i hi).1, (H1 i hi).2.1⟩⟩) (fun _ => ⟨b2, 0, rfl, h2, fun i hi => ⟨(H2 i hi).1, (H2 i hi).2.1⟩⟩) (by rw [hc, hm]; exact hz hf)
    rw [hc, decide_eq_true rfl] at this
    exact this
  have UT : Aside (∀ W, F = true → Rd2 W a d → Calls Tryz.prog 32 #[.slice a m cap] W fun e w' => ∃ a' cap', e = .returned (.slice a' m cap') ∧ Rd2 w' a' (untag d.toList).toArray ∧ Below W.heap.size W w') := fun W hf hr => untagged_calls a cap m d W hr hm.symm (by rw [hm]; exact hz hf)
  rw [← hm] at fits HN HI HU hm1 ⊢
  have h1z : ¬ (2147483647 : Int) < (m : Int) := by omega
  have h2z : ¬ (2147483647 : Int) < (n : Int) := by omega
  have B0 : Aside (Below w.heap.size w (w.alloc (.cells #[.int .i64 k, .int .i64 s, .int .u64 m0, .int .u64 m1, .int .u64 m2] 26))) := below_alloc _ _
  have K0 : Aside (BoxK (w.alloc (.cells #[.int .i64 k, .int .i64 s, .int .u64 m0, .int .u64 m1, .int .u64 m2] 26)) w.heap.size k s m0 m1 m2) := boxK_new _ _ _ _ _ _ _
  have R0 : Aside (Rd2 w a d ∧ RdN w na ns) := ⟨h.rd, hN⟩
  have QI : Aside _ := HI
  have QU : Aside _ := HU
  have HM : Aside (nums.size ≤ 2000 ∧ mums.size ≤ 2000) := ⟨hnum, hmum⟩
  clear h hN hF HI HU hz hm1 hm2 hm hnum hmum
  go_enter Tryz.func6, Tryz.ntmps6
  go_wp2_with fail
  refine (fits _).mono ?_
  rintro e w1 ⟨rfl, hb⟩
  have B1 : Aside (Below w.heap.size w w1) := Below.next B0.out hb
  have K1 : Aside (BoxK w1 w.heap.size k s m0 m1 m2) := K0.out.keep hb
  clear hb K0 B0 fits
  cases F with
  | false =>
    go_wp2_with fail
    refine (works_calls _).mono ?_
    rintro e w2 ⟨rfl, hb⟩
    go_wp2_with fail
    go_ret
    exact ⟨rfl, Below.next B1.out hb⟩
  | true =>
    have hx := HN w1 (R0.out.2.keep B1.out)
    go_wp2_with fail
    refine hx.mono ?_
    rintro e w4 ⟨u, v, rfl, hb⟩
    have B4 : Aside (Below w.heap.size w w4) := Below.next B1.out hb
    have K4 : Aside (BoxK w4 w.heap.size k s m0 m1 m2) := K1.out.keep hb
    clear hb K1 B1 HN hx
    cases OK with
    | false =>
      go_wp2_with fail
      refine (works_calls _).mono ?_
      rintro e w2 ⟨rfl, hb⟩
      go_wp2_with fail
      go_ret
      exact ⟨rfl, Below.next B4.out hb⟩
    | true =>
      obtain ⟨hs1, QI1⟩ := QI.out (by trivial) (by trivial)
      obtain ⟨hs2, QU1⟩ := QU.out (by trivial) (by trivial)
      have EI : Aside _ := QI1
      have EU : Aside _ := QU1
      have S1 : Aside _ := hs1
      have S2 : Aside _ := hs2
      obtain ⟨_, k0, k1, k2, k3, k4⟩ := K4.out
      have hx := QI1 0 (Or.inl rfl) w4 (R0.out.1.keep B4.out) (R0.out.2.keep B4.out)
      clear QI QU QI1 QU1 hs1 hs2
      go_wp2_with fail
      refine hx.mono ?_
      rintro e w5 ⟨b1, c1, n1, nc1, rfl, hb1, hb2, hb3, hb4, hb5, hb⟩
      have B5 : Aside (Below w.heap.size w w5) := Below.next B4.out hb
      have K5 : Aside (BoxK w5 w.heap.size k s m0 m1 m2) := K4.out.keep hb
      have X1 : Aside (b1 < w5.heap.size ∧ Holds2 w5 b1 0 d' ∧ RdN w5 n1 nums) := ⟨hb2, hb4, hb5⟩
      rw [S1.out]
      clear hb hb1 hb2 hb3 hb4 hb5 hx K4 B4 k0 k1 k2 k3 k4
      obtain ⟨_, k0, k1, k2, k3, k4⟩ := K5.out
      have hx := EI.out 1 (Or.inr rfl) w5 (R0.out.1.keep B5.out) (R0.out.2.keep B5.out)
      go_wp2_with fail
      refine hx.mono ?_
      rintro e w6 ⟨b2, c2, n2, nc2, rfl, hb1, hb2, hb3, hb4, hb5, hb⟩
      have B6 : Aside (Below w.heap.size w w6) := Below.next B5.out hb
      have hx := SM.out w6 d' b1 b2 c1 c2 (by trivial) S1.out (Nat.lt_of_lt_of_le X1.out.1 hb.size) hb2 (Holds2_of_block (hb.block b1 X1.out.1) X1.out.2.1) hb4
      have X2 : Aside (RdN w6 n1 nums ∧ RdN w6 n2 nums) := ⟨X1.out.2.2.keep hb, hb5⟩
      rw [S1.out]
      clear hb hb1 hb2 hb3 hb4 hb5 K5 B5 X1 EI k0 k1 k2 k3 k4
      go_wp2_with fail
      refine hx.mono ?_
      rintro e w' ⟨rfl, q, rfl⟩
      have B7 : Aside (Below w.heap.size w (w6.drewN q)) := below_drewN B6.out q
      have hx := equal_calls n1 n2 nc1 nc2 nums.size nums (w6.drewN q) (X2.out.1.keep (below_drewN (Below.refl _ _) q)) (X2.out.2.keep (below_drewN (Below.refl _ _) q)) rfl HM.out.1
      clear X2 B6
      generalize w6.drewN q = w7 at B7 hx ⊢
      go_wp2_with fail
      refine hx.mono ?_
      rintro e w' ⟨rfl, q2, rfl⟩
      have B8 : Aside (Below w.heap.size w (w7.drewN q2)) := below_drewN B7.out q2
      clear B7 hx
      generalize w7.drewN q2 = w8 at B8 ⊢
      have hx := UT.out w8 (by trivial) (R0.out.1.keep B8.out)
      go_wp2_with fail
      refine hx.mono ?_
      rintro e w9 ⟨pa, pc, rfl, hr, hb⟩
      have B9 : Aside (Below w.heap.size w w9) := Below.next B8.out hb
      have PR : Aside (Rd2 w9 pa (untag d.toList).toArray) := hr
      have BO : Aside (Below w9.heap.size w9 (w9.alloc (.cells #[.int .i64 0, .int .i64 0, .int .u64 0, .int .u64 0, .int .u64 0] 26))) := below_alloc _ _
      clear hx hb hr B8 UT
      go_upto_region 13 with fail
      obtain ⟨wA, hwA⟩ : ∃ W, W = w9.alloc (.cells #[.int .i64 0, .int .i64 0, .int .u64 0, .int .u64 0, .int .u64 0] 26) := ⟨_, rfl⟩
      rw [← hwA]
      have BA : Aside (Below w.heap.size w wA) := by show Below _ _ _; rw [hwA]; exact Below.next B9.out BO.out
      have KA : Aside (BoxK wA w9.heap.size 0 0 0 0 0) := by show BoxK _ _ _ _ _ _ _; rw [hwA]; exact boxK_new _ _ _ _ _ _ _
      have PA : Aside (Rd2 wA pa (untag d.toList).toArray) := by show Rd2 _ _ _; rw [hwA]; exact PR.out.keep BO.out
      clear hwA BO PR B9
      generalize w9.heap.size = g at KA ⊢
      obtain ⟨_, k0, k1, k2, k3, k4⟩ := KA.out
      have hx := EU.out 0 (Or.inl rfl) wA pa pc PA.out (R0.out.2.keep BA.out)
      go_wp2_with fail
      refine hx.mono ?_
      rintro e w10 ⟨b1, c1, n1, nc1, rfl, hb1, hb2, hb3, hb4, hb5, hb⟩
      have B10 : Aside (Below w.heap.size w w10) := Below.next BA.out hb
      have K10 : Aside (BoxK w10 g 0 0 0 0 0) := KA.out.keep hb
      have P10 : Aside (Rd2 w10 pa (untag d.toList).toArray) := PA.out.keep hb
      have X1 : Aside (b1 < w10.heap.size ∧ Holds2 w10 b1 0 e' ∧ RdN w10 n1 mums) := ⟨hb2, hb4, hb5⟩
      rw [S2.out]
      clear hb hb1 hb2 hb3 hb4 hb5 hx KA BA PA k0 k1 k2 k3 k4
      obtain ⟨_, k0, k1, k2, k3, k4⟩ := K10.out
      have hx := EU.out 2 (Or.inr rfl) w10 pa pc P10.out (R0.out.2.keep B10.out)
      go_wp2_with fail
      refine hx.mono ?_
      rintro e w11 ⟨b2, c2, n2, nc2, rfl, hb1, hb2, hb3, hb4, hb5, hb⟩
      have B11 : Aside (Below w.heap.size w w11) := Below.next B10.out hb
      have hx := SM.out w11 e' b1 b2 c1 c2 (by trivial) S2.out (Nat.lt_of_lt_of_le X1.out.1 hb.size) hb2 (Holds2_of_block (hb.block b1 X1.out.1) X1.out.2.1) hb4
      have X2 : Aside (RdN w11 n1 mums ∧ RdN w11 n2 mums) := ⟨X1.out.2.2.keep hb, hb5⟩
      rw [S2.out]
      clear hb hb1 hb2 hb3 hb4 hb5 K10 B10 P10 X1 EU k0 k1 k2 k3 k4
      go_wp2_with fail
      refine hx.mono ?_
      rintro e w' ⟨rfl, q3, rfl⟩
      have B12 : Aside (Below w.heap.size w (w11.drewN q3)) := below_drewN B11.out q3
      have hx := equal_calls n1 n2 nc1 nc2 mums.size mums (w11.drewN q3) (X2.out.1.keep (below_drewN (Below.refl _ _) q3)) (X2.out.2.keep (below_drewN (Below.refl _ _) q3)) rfl HM.out.2
      clear X2 B11
      generalize w11.drewN q3 = w12 at B12 hx ⊢
      go_wp2_with fail
      refine hx.mono ?_
      rintro e w' ⟨rfl, q4, rfl⟩
      have B13 : Aside (Below w.heap.size w (w12.drewN q4)) := below_drewN B12.out q4
      clear B12 hx
      generalize w12.drewN q4 = w13 at B13 ⊢
      go_wp2_with fail
      refine (works_calls _).mono ?_
      rintro e w8 ⟨rfl, hb⟩
      go_wp2_with fail
      go_ret
      exact ⟨rfl, Below.next B13.out hb⟩
end Go.Proofs.YtglgmkikegbchaaGreat

/- A list of numbers that came in. -/
namespace Go.Proofs.YtglgmkikegbchaaGreat
open Go.ChangeShapes Go.WideShapes Go.ChangeAt Go.RowKit Go.Deep Go.Sort

theorem open_nums {H : Type} {enc : TypeId × Value → H} {W : World} {fuel : Nat} {a : Option Addr} {len cap : Nat} {x : DataW H × List MemPlace} (h : DataW.trod enc Tryz.prog W 0 (fun _ => true) true fuel 29 [.slice a len cap] = some x) :
    ∃ d : Array Int, d.size = len ∧ RdN W a d := by
  rcases open_slice1 Tryz.underlying29 (by kernel_rfl) h with ⟨hc, _⟩ | ⟨a', len', cap', m, n, V, D, Pl, hc, _, hl, hm, hmm, _, hall⟩
  · simp only [List.cons.injEq, and_true, Value.slice.injEq] at hc
    obtain ⟨rfl, rfl, rfl⟩ := hc
    exact ⟨#[], rfl, fun h => absurd h (by simp)⟩
  · simp only [List.cons.injEq, and_true, Value.slice.injEq] at hc
    obtain ⟨rfl, rfl, rfl⟩ := hc
    simp only [if_true] at hmm
    subst hmm
    have hb : ∀ i, i < m → ∃ x : Int, V i = .int .i64 x := fun i hi => by
      obtain ⟨x, h1, _⟩ := DataW.trod_int Tryz.underlying3 (hall i hi).2
      simp only [List.cons.injEq, and_true] at h1
      exact ⟨x, h1⟩
    let X : Nat → Int := fun i => if h : i < m then (hb i h).choose else 0
    have hX : ∀ i, i < len → V i = .int .i64 (X i) := fun i hi => by
      have hi' : i < m := by omega
      simp only [X, dif_pos hi']
      exact (hb i hi').choose_spec
    let d : Array Int := ((List.range len).map X).toArray
    have hd : ∀ i, i < len → d[i]! = X i := fun i hi => by
      have : d[i]? = some (X i) := by simp [d, hi]
      rw [getElem!_def, this]
    refine ⟨d, by simp [d], fun h0 => ?_⟩
    have h0' : 0 < len := by simpa [d] using h0
    obtain ⟨b, off, spot⟩ := a'
    have hspot : spot = none := by simpa [Addr.add] using World.cell?_spot (hall 0 (by omega)).1
    subst hspot
    refine ⟨b, off, rfl, World.block_lt_of_cell? _ _ (hall 0 (by omega)).1, fun i hi => ?_⟩
    have hi' : i < len := by simpa [d] using hi
    rw [hd i hi', ← hX i hi', ← Go.WideShapes.add_plain]
    exact (hall i (by omega)).1

theorem arr1 {ns : Array Int} (h : ns.size = 1) : ∃ x, ns = #[x] := by
  obtain ⟨l⟩ := ns
  match l, h with
  | [x], _ => exact ⟨x, rfl⟩
theorem arr2 {ns : Array Int} (h : ns.size = 2) : ∃ x y, ns = #[x, y] := by
  obtain ⟨l⟩ := ns
  match l, h with
  | [x, y], _ => exact ⟨x, y, rfl⟩
theorem arr3 {ns : Array Int} (h : ns.size = 3) : ∃ x y z, ns = #[x, y, z] := by
  obtain ⟨l⟩ := ns
  match l, h with
  | [x, y, z], _ => exact ⟨x, y, z, rfl⟩
end Go.Proofs.YtglgmkikegbchaaGreat

/- laws.FnAlike of each function (printed by gen/sums.py). -/
namespace Go.Proofs.YtglgmkikegbchaaGreat
open Go.RowKit Go.Sort

def up00 : Ordr := ⟨0, 0, 0, 0, 0⟩
theorem untag_untag (l : List It) : untag (untag l) = untag l := by simp [untag]
theorem text_two (t : Int) (ht : t = 0 ∨ t = 1) (d : Array It) (o : Ordr) : textB t d o = true := by
  rcases ht with rfl | rfl
  · unfold textB; rw [if_neg (by decide)]; rfl
  · unfold textB; rw [if_neg (by decide)]; rfl
theorem text_bare (t : Int) (ht : t = 0 ∨ t = 2) (l : List It) : textB t (untag l).toArray up00 = true := by
  rcases ht with rfl | rfl
  · unfold textB; rw [if_neg (by decide)]; rfl
  · unfold textB; rw [if_pos rfl, untag_untag, decide_eq_true rfl]; rfl

theorem alk_0 (a na : Option Addr) (cap ncap : Nat) (d : Array It) (o : Ordr) (x y : Int) (w : World) (h : Arg w a cap d) (hN : RdN w na #[x, y]) (hm1 : d.size ≤ 2147483647) :
    Calls Tryz.prog 6 #[.int .i64 0, .slice a d.size cap, vOrd o, .slice na 2 ncap] w fun e w' => e = .returned (.bool true) ∧ Below w.heap.size w w' := by
  obtain ⟨OK, hOK, HNum⟩ := numok_0 d.size x y
  have hsz : fitsB d.size o = true → d.size ≤ 2000 ∧ 0 ≤ o.shift ∧ o.shift < 64 := fun e => by
    unfold fitsB at e
    simp only [Bool.and_eq_true, decide_eq_true_eq] at e
    exact ⟨e.1.1.1.1, e.1.2, e.2⟩
  have hu : (untag d.toList).toArray.size = d.size := by simp [untag]
  refine alk_calls 0 a na cap 2 ncap d (insertionSort (ltC (cfO o)) d x.toNat y.toNat) (insertionSort (ltC (cfO up00)) (untag d.toList).toArray x.toNat y.toNat) o #[x, y] (#[]) (#[]) OK w h hN hm1 (by decide) (by show 0 ≤ 2000; decide) (by show 0 ≤ 2000; decide) (fun W hW => (HNum na ncap W hW).mono fun e w' ⟨u, v, h1, _, h3⟩ => ⟨u, v, h1, h3⟩) (fun e1 e2 => ?_) (fun e1 e2 => ?_)
  · obtain ⟨X, Y, rfl, rfl, b0, b1, g⟩ := hOK e1
    obtain ⟨z1, z2, z3⟩ := hsz e2
    try simp only [Int.toNat_natCast]
    exact ⟨size_insertionSort (ltC (cfO o)) d X Y (by omega) (by omega), fun t ht W hA hB => inner_insertionSort t a cap d o na ncap X Y (by omega) (by omega) W hA hB z1 z2 z3 (text_two t ht d o)⟩
  · obtain ⟨X, Y, rfl, rfl, b0, b1, g⟩ := hOK e1
    obtain ⟨z1, z2, z3⟩ := hsz e2
    try simp only [Int.toNat_natCast]
    refine ⟨(size_insertionSort (ltC (cfO up00)) (untag d.toList).toArray X Y (by omega) (by omega)).trans hu, fun t ht W pa pc hA hB => ?_⟩
    have := inner_insertionSort t pa pc (untag d.toList).toArray up00 na ncap X Y (by omega) (by omega) W hA hB (by omega) (by decide) (by decide) (text_bare t ht d.toList)
    rw [hu] at this
    exact this

theorem alk_1 (a na : Option Addr) (cap ncap : Nat) (d : Array It) (o : Ordr) (x y z : Int) (w : World) (h : Arg w a cap d) (hN : RdN w na #[x, y, z]) (hm1 : d.size ≤ 2147483647) :
    Calls Tryz.prog 6 #[.int .i64 1, .slice a d.size cap, vOrd o, .slice na 3 ncap] w fun e w' => e = .returned (.bool true) ∧ Below w.heap.size w w' := by
  obtain ⟨OK, hOK, HNum⟩ := numok_1 d.size x y z
  have hsz : fitsB d.size o = true → d.size ≤ 2000 ∧ 0 ≤ o.shift ∧ o.shift < 64 := fun e => by
    unfold fitsB at e
    simp only [Bool.and_eq_true, decide_eq_true_eq] at e
    exact ⟨e.1.1.1.1, e.1.2, e.2⟩
  have hu : (untag d.toList).toArray.size = d.size := by simp [untag]
  refine alk_calls 1 a na cap 3 ncap d (siftDown (ltC (cfO o)) y.toNat z.toNat x.toNat d) (siftDown (ltC (cfO up00)) y.toNat z.toNat x.toNat (untag d.toList).toArray) o #[x, y, z] (#[]) (#[]) OK w h hN hm1 (by decide) (by show 0 ≤ 2000; decide) (by show 0 ≤ 2000; decide) (fun W hW => (HNum na ncap W hW).mono fun e w' ⟨u, v, h1, _, h3⟩ => ⟨u, v, h1, h3⟩) (fun e1 e2 => ?_) (fun e1 e2 => ?_)
  · obtain ⟨X, Y, Z, rfl, rfl, rfl, b0, b1, b2, g⟩ := hOK e1
    obtain ⟨z1, z2, z3⟩ := hsz e2
    try simp only [Int.toNat_natCast]
    exact ⟨size_siftDown' (ltC (cfO o)) d X Y Z (by omega) (by omega), fun t ht W hA hB => inner_siftDown t a cap d o na ncap X Y Z (by omega) (by omega) W hA hB z1 z2 z3 (text_two t ht d o)⟩
  · obtain ⟨X, Y, Z, rfl, rfl, rfl, b0, b1, b2, g⟩ := hOK e1
    obtain ⟨z1, z2, z3⟩ := hsz e2
    try simp only [Int.toNat_natCast]
    refine ⟨(size_siftDown' (ltC (cfO up00)) (untag d.toList).toArray X Y Z (by omega) (by omega)).trans hu, fun t ht W pa pc hA hB => ?_⟩
    have := inner_siftDown t pa pc (untag d.toList).toArray up00 na ncap X Y Z (by omega) (by omega) W hA hB (by omega) (by decide) (by decide) (text_bare t ht d.toList)
    rw [hu] at this
    exact this

theorem alk_2 (a na : Option Addr) (cap ncap : Nat) (d : Array It) (o : Ordr) (x y : Int) (w : World) (h : Arg w a cap d) (hN : RdN w na #[x, y]) (hm1 : d.size ≤ 2147483647) :
    Calls Tryz.prog 6 #[.int .i64 2, .slice a d.size cap, vOrd o, .slice na 2 ncap] w fun e w' => e = .returned (.bool true) ∧ Below w.heap.size w w' := by
  obtain ⟨OK, hOK, HNum⟩ := numok_2 d.size x y
  have hsz : fitsB d.size o = true → d.size ≤ 2000 ∧ 0 ≤ o.shift ∧ o.shift < 64 := fun e => by
    unfold fitsB at e
    simp only [Bool.and_eq_true, decide_eq_true_eq] at e
    exact ⟨e.1.1.1.1, e.1.2, e.2⟩
  have hu : (untag d.toList).toArray.size = d.size := by simp [untag]
  refine alk_calls 2 a na cap 2 ncap d (heapSort (ltC (cfO o)) d x.toNat y.toNat) (heapSort (ltC (cfO up00)) (untag d.toList).toArray x.toNat y.toNat) o #[x, y] (#[]) (#[]) OK w h hN hm1 (by decide) (by show 0 ≤ 2000; decide) (by show 0 ≤ 2000; decide) (fun W hW => (HNum na ncap W hW).mono fun e w' ⟨u, v, h1, _, h3⟩ => ⟨u, v, h1, h3⟩) (fun e1 e2 => ?_) (fun e1 e2 => ?_)
  · obtain ⟨X, Y, rfl, rfl, b0, b1, g⟩ := hOK e1
    obtain ⟨z1, z2, z3⟩ := hsz e2
    try simp only [Int.toNat_natCast]
    exact ⟨size_heapSort (ltC (cfO o)) d X Y (by omega) (by omega), fun t ht W hA hB => inner_heapSort t a cap d o na ncap X Y (by omega) (by omega) W hA hB z1 z2 z3 (text_two t ht d o)⟩
  · obtain ⟨X, Y, rfl, rfl, b0, b1, g⟩ := hOK e1
    obtain ⟨z1, z2, z3⟩ := hsz e2
    try simp only [Int.toNat_natCast]
    refine ⟨(size_heapSort (ltC (cfO up00)) (untag d.toList).toArray X Y (by omega) (by omega)).trans hu, fun t ht W pa pc hA hB => ?_⟩
    have := inner_heapSort t pa pc (untag d.toList).toArray up00 na ncap X Y (by omega) (by omega) W hA hB (by omega) (by decide) (by decide) (text_bare t ht d.toList)
    rw [hu] at this
    exact this

theorem alk_3 (a na : Option Addr) (cap ncap : Nat) (d : Array It) (o : Ordr) (x y z : Int) (w : World) (h : Arg w a cap d) (hN : RdN w na #[x, y, z]) (hm1 : d.size ≤ 2147483647) :
    Calls Tryz.prog 6 #[.int .i64 3, .slice a d.size cap, vOrd o, .slice na 3 ncap] w fun e w' => e = .returned (.bool true) ∧ Below w.heap.size w w' := by
  obtain ⟨OK, hOK, HNum⟩ := numok_3 d.size x y z
  have hsz : fitsB d.size o = true → d.size ≤ 2000 ∧ 0 ≤ o.shift ∧ o.shift < 64 := fun e => by
    unfold fitsB at e
    simp only [Bool.and_eq_true, decide_eq_true_eq] at e
    exact ⟨e.1.1.1.1, e.1.2, e.2⟩
  have hu : (untag d.toList).toArray.size = d.size := by simp [untag]
  refine alk_calls 3 a na cap 3 ncap d (pdq (ltC (cfO o)) d x.toNat y.toNat z.toNat true true) (pdq (ltC (cfO up00)) (untag d.toList).toArray x.toNat y.toNat z.toNat true true) o #[x, y, z] (#[]) (#[]) OK w h hN hm1 (by decide) (by show 0 ≤ 2000; decide) (by show 0 ≤ 2000; decide) (fun W hW => (HNum na ncap W hW).mono fun e w' ⟨u, v, h1, _, h3⟩ => ⟨u, v, h1, h3⟩) (fun e1 e2 => ?_) (fun e1 e2 => ?_)
  · obtain ⟨X, Y, Z, rfl, rfl, rfl, b0, b1, b2, g⟩ := hOK e1
    obtain ⟨z1, z2, z3⟩ := hsz e2
    try simp only [Int.toNat_natCast]
    exact ⟨size_pdqsort (ltC (cfO o)) d X Y Z (by omega) (by omega) (by omega), fun t ht W hA hB => inner_pdqsort t a cap d o na ncap X Y Z (by omega) (by omega) (by omega) W hA hB z1 z2 z3 (text_two t ht d o)⟩
  · obtain ⟨X, Y, Z, rfl, rfl, rfl, b0, b1, b2, g⟩ := hOK e1
    obtain ⟨z1, z2, z3⟩ := hsz e2
    try simp only [Int.toNat_natCast]
    refine ⟨(size_pdqsort (ltC (cfO up00)) (untag d.toList).toArray X Y Z (by omega) (by omega) (by omega)).trans hu, fun t ht W pa pc hA hB => ?_⟩
    have := inner_pdqsort t pa pc (untag d.toList).toArray up00 na ncap X Y Z (by omega) (by omega) (by omega) W hA hB (by omega) (by decide) (by decide) (text_bare t ht d.toList)
    rw [hu] at this
    exact this

theorem alk_4 (a na : Option Addr) (cap ncap : Nat) (d : Array It) (o : Ordr) (x y z : Int) (w : World) (h : Arg w a cap d) (hN : RdN w na #[x, y, z]) (hm1 : d.size ≤ 2147483647) :
    Calls Tryz.prog 6 #[.int .i64 4, .slice a d.size cap, vOrd o, .slice na 3 ncap] w fun e w' => e = .returned (.bool true) ∧ Below w.heap.size w w' := by
  obtain ⟨OK, hOK, HNum⟩ := numok_4 d.size x y z
  have hsz : fitsB d.size o = true → d.size ≤ 2000 ∧ 0 ≤ o.shift ∧ o.shift < 64 := fun e => by
    unfold fitsB at e
    simp only [Bool.and_eq_true, decide_eq_true_eq] at e
    exact ⟨e.1.1.1.1, e.1.2, e.2⟩
  have hu : (untag d.toList).toArray.size = d.size := by simp [untag]
  refine alk_calls 4 a na cap 3 ncap d ((partition (ltC (cfO o)) d x.toNat y.toNat z.toNat).2.2) ((partition (ltC (cfO up00)) (untag d.toList).toArray x.toNat y.toNat z.toNat).2.2) o #[x, y, z] (#[((partition (ltC (cfO o)) d x.toNat y.toNat z.toNat).1 : Int), flagN (partition (ltC (cfO o)) d x.toNat y.toNat z.toNat).2.1]) (#[((partition (ltC (cfO up00)) (untag d.toList).toArray x.toNat y.toNat z.toNat).1 : Int), flagN (partition (ltC (cfO up00)) (untag d.toList).toArray x.toNat y.toNat z.toNat).2.1]) OK w h hN hm1 (by decide) (by show 2 ≤ 2000; decide) (by show 2 ≤ 2000; decide) (fun W hW => (HNum na ncap W hW).mono fun e w' ⟨u, v, h1, _, h3⟩ => ⟨u, v, h1, h3⟩) (fun e1 e2 => ?_) (fun e1 e2 => ?_)
  · obtain ⟨X, Y, Z, rfl, rfl, rfl, b0, b1, b2, g⟩ := hOK e1
    obtain ⟨z1, z2, z3⟩ := hsz e2
    try simp only [Int.toNat_natCast]
    exact ⟨size_partition (ltC (cfO o)) d X Y Z (by omega) (by omega) (by omega) (by omega), fun t ht W hA hB => inner_partition t a cap d o na ncap X Y Z (by omega) (by omega) (by omega) (by omega) W hA hB z1 z2 z3 (text_two t ht d o)⟩
  · obtain ⟨X, Y, Z, rfl, rfl, rfl, b0, b1, b2, g⟩ := hOK e1
    obtain ⟨z1, z2, z3⟩ := hsz e2
    try simp only [Int.toNat_natCast]
    refine ⟨(size_partition (ltC (cfO up00)) (untag d.toList).toArray X Y Z (by omega) (by omega) (by omega) (by omega)).trans hu, fun t ht W pa pc hA hB => ?_⟩
    have := inner_partition t pa pc (untag d.toList).toArray up00 na ncap X Y Z (by omega) (by omega) (by omega) (by omega) W hA hB (by omega) (by decide) (by decide) (text_bare t ht d.toList)
    rw [hu] at this
    exact this

theorem alk_5 (a na : Option Addr) (cap ncap : Nat) (d : Array It) (o : Ordr) (x y z : Int) (w : World) (h : Arg w a cap d) (hN : RdN w na #[x, y, z]) (hm1 : d.size ≤ 2147483647) :
    Calls Tryz.prog 6 #[.int .i64 5, .slice a d.size cap, vOrd o, .slice na 3 ncap] w fun e w' => e = .returned (.bool true) ∧ Below w.heap.size w w' := by
  obtain ⟨OK, hOK, HNum⟩ := numok_5 d.size x y z
  have hsz : fitsB d.size o = true → d.size ≤ 2000 ∧ 0 ≤ o.shift ∧ o.shift < 64 := fun e => by
    unfold fitsB at e
    simp only [Bool.and_eq_true, decide_eq_true_eq] at e
    exact ⟨e.1.1.1.1, e.1.2, e.2⟩
  have hu : (untag d.toList).toArray.size = d.size := by simp [untag]
  refine alk_calls 5 a na cap 3 ncap d ((partitionEqual (ltC (cfO o)) d x.toNat y.toNat z.toNat).2) ((partitionEqual (ltC (cfO up00)) (untag d.toList).toArray x.toNat y.toNat z.toNat).2) o #[x, y, z] (#[((partitionEqual (ltC (cfO o)) d x.toNat y.toNat z.toNat).1 : Int)]) (#[((partitionEqual (ltC (cfO up00)) (untag d.toList).toArray x.toNat y.toNat z.toNat).1 : Int)]) OK w h hN hm1 (by decide) (by show 1 ≤ 2000; decide) (by show 1 ≤ 2000; decide) (fun W hW => (HNum na ncap W hW).mono fun e w' ⟨u, v, h1, _, h3⟩ => ⟨u, v, h1, h3⟩) (fun e1 e2 => ?_) (fun e1 e2 => ?_)
  · obtain ⟨X, Y, Z, rfl, rfl, rfl, b0, b1, b2, g⟩ := hOK e1
    obtain ⟨z1, z2, z3⟩ := hsz e2
    try simp only [Int.toNat_natCast]
    exact ⟨size_partitionEqual (ltC (cfO o)) d X Y Z (by omega) (by omega) (by omega) (by omega), fun t ht W hA hB => inner_partitionEqual t a cap d o na ncap X Y Z (by omega) (by omega) (by omega) (by omega) W hA hB z1 z2 z3 (text_two t ht d o)⟩
  · obtain ⟨X, Y, Z, rfl, rfl, rfl, b0, b1, b2, g⟩ := hOK e1
    obtain ⟨z1, z2, z3⟩ := hsz e2
    try simp only [Int.toNat_natCast]
    refine ⟨(size_partitionEqual (ltC (cfO up00)) (untag d.toList).toArray X Y Z (by omega) (by omega) (by omega) (by omega)).trans hu, fun t ht W pa pc hA hB => ?_⟩
    have := inner_partitionEqual t pa pc (untag d.toList).toArray up00 na ncap X Y Z (by omega) (by omega) (by omega) (by omega) W hA hB (by omega) (by decide) (by decide) (text_bare t ht d.toList)
    rw [hu] at this
    exact this

theorem alk_6 (a na : Option Addr) (cap ncap : Nat) (d : Array It) (o : Ordr) (x y : Int) (w : World) (h : Arg w a cap d) (hN : RdN w na #[x, y]) (hm1 : d.size ≤ 2147483647) :
    Calls Tryz.prog 6 #[.int .i64 6, .slice a d.size cap, vOrd o, .slice na 2 ncap] w fun e w' => e = .returned (.bool true) ∧ Below w.heap.size w w' := by
  obtain ⟨OK, hOK, HNum⟩ := numok_6 d.size x y
  have hsz : fitsB d.size o = true → d.size ≤ 2000 ∧ 0 ≤ o.shift ∧ o.shift < 64 := fun e => by
    unfold fitsB at e
    simp only [Bool.and_eq_true, decide_eq_true_eq] at e
    exact ⟨e.1.1.1.1, e.1.2, e.2⟩
  have hu : (untag d.toList).toArray.size = d.size := by simp [untag]
  refine alk_calls 6 a na cap 2 ncap d ((partialInsertionSort (ltC (cfO o)) d x.toNat y.toNat).1) ((partialInsertionSort (ltC (cfO up00)) (untag d.toList).toArray x.toNat y.toNat).1) o #[x, y] (#[flagN (partialInsertionSort (ltC (cfO o)) d x.toNat y.toNat).2]) (#[flagN (partialInsertionSort (ltC (cfO up00)) (untag d.toList).toArray x.toNat y.toNat).2]) OK w h hN hm1 (by decide) (by show 1 ≤ 2000; decide) (by show 1 ≤ 2000; decide) (fun W hW => (HNum na ncap W hW).mono fun e w' ⟨u, v, h1, _, h3⟩ => ⟨u, v, h1, h3⟩) (fun e1 e2 => ?_) (fun e1 e2 => ?_)
  · obtain ⟨X, Y, rfl, rfl, b0, b1, g⟩ := hOK e1
    obtain ⟨z1, z2, z3⟩ := hsz e2
    try simp only [Int.toNat_natCast]
    exact ⟨size_partialInsertionSort (ltC (cfO o)) d X Y (by omega) (by omega), fun t ht W hA hB => inner_partialInsertionSort t a cap d o na ncap X Y (by omega) (by omega) W hA hB z1 z2 z3 (text_two t ht d o)⟩
  · obtain ⟨X, Y, rfl, rfl, b0, b1, g⟩ := hOK e1
    obtain ⟨z1, z2, z3⟩ := hsz e2
    try simp only [Int.toNat_natCast]
    refine ⟨(size_partialInsertionSort (ltC (cfO up00)) (untag d.toList).toArray X Y (by omega) (by omega)).trans hu, fun t ht W pa pc hA hB => ?_⟩
    have := inner_partialInsertionSort t pa pc (untag d.toList).toArray up00 na ncap X Y (by omega) (by omega) W hA hB (by omega) (by decide) (by decide) (text_bare t ht d.toList)
    rw [hu] at this
    exact this

theorem alk_7 (a na : Option Addr) (cap ncap : Nat) (d : Array It) (o : Ordr) (x y : Int) (w : World) (h : Arg w a cap d) (hN : RdN w na #[x, y]) (hm1 : d.size ≤ 2147483647) :
    Calls Tryz.prog 6 #[.int .i64 7, .slice a d.size cap, vOrd o, .slice na 2 ncap] w fun e w' => e = .returned (.bool true) ∧ Below w.heap.size w w' := by
  obtain ⟨OK, hOK, HNum⟩ := numok_7 d.size x y
  have hsz : fitsB d.size o = true → d.size ≤ 2000 ∧ 0 ≤ o.shift ∧ o.shift < 64 := fun e => by
    unfold fitsB at e
    simp only [Bool.and_eq_true, decide_eq_true_eq] at e
    exact ⟨e.1.1.1.1, e.1.2, e.2⟩
  have hu : (untag d.toList).toArray.size = d.size := by simp [untag]
  refine alk_calls 7 a na cap 2 ncap d (breakPatterns d x.toNat y.toNat) (breakPatterns (untag d.toList).toArray x.toNat y.toNat) o #[x, y] (#[]) (#[]) OK w h hN hm1 (by decide) (by show 0 ≤ 2000; decide) (by show 0 ≤ 2000; decide) (fun W hW => (HNum na ncap W hW).mono fun e w' ⟨u, v, h1, _, h3⟩ => ⟨u, v, h1, h3⟩) (fun e1 e2 => ?_) (fun e1 e2 => ?_)
  · obtain ⟨X, Y, rfl, rfl, b0, b1, g⟩ := hOK e1
    obtain ⟨z1, z2, z3⟩ := hsz e2
    try simp only [Int.toNat_natCast]
    exact ⟨size_breakPatterns (ltC (cfO o)) d X Y (by omega) (by omega), fun t ht W hA hB => inner_breakPatterns t a cap d o na ncap X Y (by omega) (by omega) W hA hB z1 z2 z3 (text_two t ht d o)⟩
  · obtain ⟨X, Y, rfl, rfl, b0, b1, g⟩ := hOK e1
    obtain ⟨z1, z2, z3⟩ := hsz e2
    try simp only [Int.toNat_natCast]
    refine ⟨(size_breakPatterns (ltC (cfO up00)) (untag d.toList).toArray X Y (by omega) (by omega)).trans hu, fun t ht W pa pc hA hB => ?_⟩
    have := inner_breakPatterns t pa pc (untag d.toList).toArray up00 na ncap X Y (by omega) (by omega) W hA hB (by omega) (by decide) (by decide) (text_bare t ht d.toList)
    rw [hu] at this
    exact this

theorem alk_8 (a na : Option Addr) (cap ncap : Nat) (d : Array It) (o : Ordr) (x y : Int) (w : World) (h : Arg w a cap d) (hN : RdN w na #[x, y]) (hm1 : d.size ≤ 2147483647) :
    Calls Tryz.prog 6 #[.int .i64 8, .slice a d.size cap, vOrd o, .slice na 2 ncap] w fun e w' => e = .returned (.bool true) ∧ Below w.heap.size w w' := by
  obtain ⟨OK, hOK, HNum⟩ := numok_8 d.size x y
  have hsz : fitsB d.size o = true → d.size ≤ 2000 ∧ 0 ≤ o.shift ∧ o.shift < 64 := fun e => by
    unfold fitsB at e
    simp only [Bool.and_eq_true, decide_eq_true_eq] at e
    exact ⟨e.1.1.1.1, e.1.2, e.2⟩
  have hu : (untag d.toList).toArray.size = d.size := by simp [untag]
  refine alk_calls 8 a na cap 2 ncap d (d) ((untag d.toList).toArray) o #[x, y] (#[((choosePivot (ltC (cfO o)) d x.toNat y.toNat).1 : Int), hintCode (choosePivot (ltC (cfO o)) d x.toNat y.toNat).2]) (#[((choosePivot (ltC (cfO up00)) (untag d.toList).toArray x.toNat y.toNat).1 : Int), hintCode (choosePivot (ltC (cfO up00)) (untag d.toList).toArray x.toNat y.toNat).2]) OK w h hN hm1 (by decide) (by show 2 ≤ 2000; decide) (by show 2 ≤ 2000; decide) (fun W hW => (HNum na ncap W hW).mono fun e w' ⟨u, v, h1, _, h3⟩ => ⟨u, v, h1, h3⟩) (fun e1 e2 => ?_) (fun e1 e2 => ?_)
  · obtain ⟨X, Y, rfl, rfl, b0, b1, g⟩ := hOK e1
    obtain ⟨z1, z2, z3⟩ := hsz e2
    try simp only [Int.toNat_natCast]
    exact ⟨by first | rfl | trivial, fun t ht W hA hB => inner_choosePivot t a cap d o na ncap X Y (by omega) (by omega) W hA hB z1 z2 z3 (text_two t ht d o)⟩
  · obtain ⟨X, Y, rfl, rfl, b0, b1, g⟩ := hOK e1
    obtain ⟨z1, z2, z3⟩ := hsz e2
    try simp only [Int.toNat_natCast]
    refine ⟨(rfl).trans hu, fun t ht W pa pc hA hB => ?_⟩
    have := inner_choosePivot t pa pc (untag d.toList).toArray up00 na ncap X Y (by omega) (by omega) W hA hB (by omega) (by decide) (by decide) (text_bare t ht d.toList)
    rw [hu] at this
    exact this

theorem alk_9 (a na : Option Addr) (cap ncap : Nat) (d : Array It) (o : Ordr) (x y : Int) (w : World) (h : Arg w a cap d) (hN : RdN w na #[x, y]) (hm1 : d.size ≤ 2147483647) :
    Calls Tryz.prog 6 #[.int .i64 9, .slice a d.size cap, vOrd o, .slice na 2 ncap] w fun e w' => e = .returned (.bool true) ∧ Below w.heap.size w w' := by
  obtain ⟨OK, hOK, HNum⟩ := numok_9 d.size x y
  have hsz : fitsB d.size o = true → d.size ≤ 2000 ∧ 0 ≤ o.shift ∧ o.shift < 64 := fun e => by
    unfold fitsB at e
    simp only [Bool.and_eq_true, decide_eq_true_eq] at e
    exact ⟨e.1.1.1.1, e.1.2, e.2⟩
  have hu : (untag d.toList).toArray.size = d.size := by simp [untag]
  refine alk_calls 9 a na cap 2 ncap d (d) ((untag d.toList).toArray) o #[x, y] (#[((order2 (ltC (cfO o)) d x.toNat y.toNat 0).1 : Int), ((order2 (ltC (cfO o)) d x.toNat y.toNat 0).2.1 : Int), ((order2 (ltC (cfO o)) d x.toNat y.toNat 0).2.2 : Int)]) (#[((order2 (ltC (cfO up00)) (untag d.toList).toArray x.toNat y.toNat 0).1 : Int), ((order2 (ltC (cfO up00)) (untag d.toList).toArray x.toNat y.toNat 0).2.1 : Int), ((order2 (ltC (cfO up00)) (untag d.toList).toArray x.toNat y.toNat 0).2.2 : Int)]) OK w h hN hm1 (by decide) (by show 3 ≤ 2000; decide) (by show 3 ≤ 2000; decide) (fun W hW => (HNum na ncap W hW).mono fun e w' ⟨u, v, h1, _, h3⟩ => ⟨u, v, h1, h3⟩) (fun e1 e2 => ?_) (fun e1 e2 => ?_)
  · obtain ⟨X, Y, rfl, rfl, b0, b1, g⟩ := hOK e1
    obtain ⟨z1, z2, z3⟩ := hsz e2
    try simp only [Int.toNat_natCast]
    exact ⟨by first | rfl | trivial, fun t ht W hA hB => inner_order2 t a cap d o na ncap X Y (by omega) (by omega) W hA hB z1 z2 z3 (text_two t ht d o)⟩
  · obtain ⟨X, Y, rfl, rfl, b0, b1, g⟩ := hOK e1
    obtain ⟨z1, z2, z3⟩ := hsz e2
    try simp only [Int.toNat_natCast]
    refine ⟨(rfl).trans hu, fun t ht W pa pc hA hB => ?_⟩
    have := inner_order2 t pa pc (untag d.toList).toArray up00 na ncap X Y (by omega) (by omega) W hA hB (by omega) (by decide) (by decide) (text_bare t ht d.toList)
    rw [hu] at this
    exact this

theorem alk_10 (a na : Option Addr) (cap ncap : Nat) (d : Array It) (o : Ordr) (x y z : Int) (w : World) (h : Arg w a cap d) (hN : RdN w na #[x, y, z]) (hm1 : d.size ≤ 2147483647) :
    Calls Tryz.prog 6 #[.int .i64 10, .slice a d.size cap, vOrd o, .slice na 3 ncap] w fun e w' => e = .returned (.bool true) ∧ Below w.heap.size w w' := by
  obtain ⟨OK, hOK, HNum⟩ := numok_10 d.size x y z
  have hsz : fitsB d.size o = true → d.size ≤ 2000 ∧ 0 ≤ o.shift ∧ o.shift < 64 := fun e => by
    unfold fitsB at e
    simp only [Bool.and_eq_true, decide_eq_true_eq] at e
    exact ⟨e.1.1.1.1, e.1.2, e.2⟩
  have hu : (untag d.toList).toArray.size = d.size := by simp [untag]
  refine alk_calls 10 a na cap 3 ncap d (d) ((untag d.toList).toArray) o #[x, y, z] (#[((median (ltC (cfO o)) d x.toNat y.toNat z.toNat 0).1 : Int), ((median (ltC (cfO o)) d x.toNat y.toNat z.toNat 0).2 : Int)]) (#[((median (ltC (cfO up00)) (untag d.toList).toArray x.toNat y.toNat z.toNat 0).1 : Int), ((median (ltC (cfO up00)) (untag d.toList).toArray x.toNat y.toNat z.toNat 0).2 : Int)]) OK w h hN hm1 (by decide) (by show 2 ≤ 2000; decide) (by show 2 ≤ 2000; decide) (fun W hW => (HNum na ncap W hW).mono fun e w' ⟨u, v, h1, _, h3⟩ => ⟨u, v, h1, h3⟩) (fun e1 e2 => ?_) (fun e1 e2 => ?_)
  · obtain ⟨X, Y, Z, rfl, rfl, rfl, b0, b1, b2, g⟩ := hOK e1
    obtain ⟨z1, z2, z3⟩ := hsz e2
    try simp only [Int.toNat_natCast]
    exact ⟨by first | rfl | trivial, fun t ht W hA hB => inner_median t a cap d o na ncap X Y Z (by omega) (by omega) (by omega) W hA hB z1 z2 z3 (text_two t ht d o)⟩
  · obtain ⟨X, Y, Z, rfl, rfl, rfl, b0, b1, b2, g⟩ := hOK e1
    obtain ⟨z1, z2, z3⟩ := hsz e2
    try simp only [Int.toNat_natCast]
    refine ⟨(rfl).trans hu, fun t ht W pa pc hA hB => ?_⟩
    have := inner_median t pa pc (untag d.toList).toArray up00 na ncap X Y Z (by omega) (by omega) (by omega) W hA hB (by omega) (by decide) (by decide) (text_bare t ht d.toList)
    rw [hu] at this
    exact this

theorem alk_11 (a na : Option Addr) (cap ncap : Nat) (d : Array It) (o : Ordr) (x : Int) (w : World) (h : Arg w a cap d) (hN : RdN w na #[x]) (hm1 : d.size ≤ 2147483647) :
    Calls Tryz.prog 6 #[.int .i64 11, .slice a d.size cap, vOrd o, .slice na 1 ncap] w fun e w' => e = .returned (.bool true) ∧ Below w.heap.size w w' := by
  obtain ⟨OK, hOK, HNum⟩ := numok_11 d.size x
  have hsz : fitsB d.size o = true → d.size ≤ 2000 ∧ 0 ≤ o.shift ∧ o.shift < 64 := fun e => by
    unfold fitsB at e
    simp only [Bool.and_eq_true, decide_eq_true_eq] at e
    exact ⟨e.1.1.1.1, e.1.2, e.2⟩
  have hu : (untag d.toList).toArray.size = d.size := by simp [untag]
  refine alk_calls 11 a na cap 1 ncap d (d) ((untag d.toList).toArray) o #[x] (#[((medianAdjacent (ltC (cfO o)) d x.toNat 0).1 : Int), ((medianAdjacent (ltC (cfO o)) d x.toNat 0).2 : Int)]) (#[((medianAdjacent (ltC (cfO up00)) (untag d.toList).toArray x.toNat 0).1 : Int), ((medianAdjacent (ltC (cfO up00)) (untag d.toList).toArray x.toNat 0).2 : Int)]) OK w h hN hm1 (by decide) (by show 2 ≤ 2000; decide) (by show 2 ≤ 2000; decide) (fun W hW => (HNum na ncap W hW).mono fun e w' ⟨u, v, h1, _, h3⟩ => ⟨u, v, h1, h3⟩) (fun e1 e2 => ?_) (fun e1 e2 => ?_)
  · obtain ⟨X, rfl, b0, g⟩ := hOK e1
    obtain ⟨z1, z2, z3⟩ := hsz e2
    try simp only [Int.toNat_natCast]
    exact ⟨by first | rfl | trivial, fun t ht W hA hB => inner_medianAdjacent t a cap d o na ncap X (by omega) (by omega) W hA hB z1 z2 z3 (text_two t ht d o)⟩
  · obtain ⟨X, rfl, b0, g⟩ := hOK e1
    obtain ⟨z1, z2, z3⟩ := hsz e2
    try simp only [Int.toNat_natCast]
    refine ⟨(rfl).trans hu, fun t ht W pa pc hA hB => ?_⟩
    have := inner_medianAdjacent t pa pc (untag d.toList).toArray up00 na ncap X (by omega) (by omega) W hA hB (by omega) (by decide) (by decide) (text_bare t ht d.toList)
    rw [hu] at this
    exact this

theorem alk_12 (a na : Option Addr) (cap ncap : Nat) (d : Array It) (o : Ordr) (x y : Int) (w : World) (h : Arg w a cap d) (hN : RdN w na #[x, y]) (hm1 : d.size ≤ 2147483647) :
    Calls Tryz.prog 6 #[.int .i64 12, .slice a d.size cap, vOrd o, .slice na 2 ncap] w fun e w' => e = .returned (.bool true) ∧ Below w.heap.size w w' := by
  obtain ⟨OK, hOK, HNum⟩ := numok_12 d.size x y
  have hsz : fitsB d.size o = true → d.size ≤ 2000 ∧ 0 ≤ o.shift ∧ o.shift < 64 := fun e => by
    unfold fitsB at e
    simp only [Bool.and_eq_true, decide_eq_true_eq] at e
    exact ⟨e.1.1.1.1, e.1.2, e.2⟩
  have hu : (untag d.toList).toArray.size = d.size := by simp [untag]
  refine alk_calls 12 a na cap 2 ncap d (reverseRange d x.toNat y.toNat) (reverseRange (untag d.toList).toArray x.toNat y.toNat) o #[x, y] (#[]) (#[]) OK w h hN hm1 (by decide) (by show 0 ≤ 2000; decide) (by show 0 ≤ 2000; decide) (fun W hW => (HNum na ncap W hW).mono fun e w' ⟨u, v, h1, _, h3⟩ => ⟨u, v, h1, h3⟩) (fun e1 e2 => ?_) (fun e1 e2 => ?_)
  · obtain ⟨X, Y, rfl, rfl, b0, b1, g⟩ := hOK e1
    obtain ⟨z1, z2, z3⟩ := hsz e2
    try simp only [Int.toNat_natCast]
    exact ⟨size_reverseRange (ltC (cfO o)) d X Y (by omega) (by omega), fun t ht W hA hB => inner_reverseRange t a cap d o na ncap X Y (by omega) (by omega) W hA hB z1 z2 z3 (text_two t ht d o)⟩
  · obtain ⟨X, Y, rfl, rfl, b0, b1, g⟩ := hOK e1
    obtain ⟨z1, z2, z3⟩ := hsz e2
    try simp only [Int.toNat_natCast]
    refine ⟨(size_reverseRange (ltC (cfO up00)) (untag d.toList).toArray X Y (by omega) (by omega)).trans hu, fun t ht W pa pc hA hB => ?_⟩
    have := inner_reverseRange t pa pc (untag d.toList).toArray up00 na ncap X Y (by omega) (by omega) W hA hB (by omega) (by decide) (by decide) (text_bare t ht d.toList)
    rw [hu] at this
    exact this

theorem alk_13 (a na : Option Addr) (cap ncap : Nat) (d : Array It) (o : Ordr) (x y z : Int) (w : World) (h : Arg w a cap d) (hN : RdN w na #[x, y, z]) (hm1 : d.size ≤ 2147483647) :
    Calls Tryz.prog 6 #[.int .i64 13, .slice a d.size cap, vOrd o, .slice na 3 ncap] w fun e w' => e = .returned (.bool true) ∧ Below w.heap.size w w' := by
  obtain ⟨OK, hOK, HNum⟩ := numok_13 d.size x y z
  have hsz : fitsB d.size o = true → d.size ≤ 2000 ∧ 0 ≤ o.shift ∧ o.shift < 64 := fun e => by
    unfold fitsB at e
    simp only [Bool.and_eq_true, decide_eq_true_eq] at e
    exact ⟨e.1.1.1.1, e.1.2, e.2⟩
  have hu : (untag d.toList).toArray.size = d.size := by simp [untag]
  refine alk_calls 13 a na cap 3 ncap d (swapRange d x.toNat y.toNat z.toNat) (swapRange (untag d.toList).toArray x.toNat y.toNat z.toNat) o #[x, y, z] (#[]) (#[]) OK w h hN hm1 (by decide) (by show 0 ≤ 2000; decide) (by show 0 ≤ 2000; decide) (fun W hW => (HNum na ncap W hW).mono fun e w' ⟨u, v, h1, _, h3⟩ => ⟨u, v, h1, h3⟩) (fun e1 e2 => ?_) (fun e1 e2 => ?_)
  · obtain ⟨X, Y, Z, rfl, rfl, rfl, b0, b1, b2, g⟩ := hOK e1
    obtain ⟨z1, z2, z3⟩ := hsz e2
    try simp only [Int.toNat_natCast]
    exact ⟨size_swapRange' (ltC (cfO o)) d X Y Z (by omega) (by omega), fun t ht W hA hB => inner_swapRange t a cap d o na ncap X Y Z (by omega) (by omega) W hA hB z1 z2 z3 (text_two t ht d o)⟩
  · obtain ⟨X, Y, Z, rfl, rfl, rfl, b0, b1, b2, g⟩ := hOK e1
    obtain ⟨z1, z2, z3⟩ := hsz e2
    try simp only [Int.toNat_natCast]
    refine ⟨(size_swapRange' (ltC (cfO up00)) (untag d.toList).toArray X Y Z (by omega) (by omega)).trans hu, fun t ht W pa pc hA hB => ?_⟩
    have := inner_swapRange t pa pc (untag d.toList).toArray up00 na ncap X Y Z (by omega) (by omega) W hA hB (by omega) (by decide) (by decide) (text_bare t ht d.toList)
    rw [hu] at this
    exact this

theorem alk_14 (a na : Option Addr) (cap ncap : Nat) (d : Array It) (o : Ordr) (x : Int) (w : World) (h : Arg w a cap d) (hN : RdN w na #[x]) (hm1 : d.size ≤ 2147483647) :
    Calls Tryz.prog 6 #[.int .i64 14, .slice a d.size cap, vOrd o, .slice na 1 ncap] w fun e w' => e = .returned (.bool true) ∧ Below w.heap.size w w' := by
  obtain ⟨OK, hOK, HNum⟩ := numok_14 d.size x
  have hsz : fitsB d.size o = true → d.size ≤ 2000 ∧ 0 ≤ o.shift ∧ o.shift < 64 := fun e => by
    unfold fitsB at e
    simp only [Bool.and_eq_true, decide_eq_true_eq] at e
    exact ⟨e.1.1.1.1, e.1.2, e.2⟩
  have hu : (untag d.toList).toArray.size = d.size := by simp [untag]
  refine alk_calls 14 a na cap 1 ncap d (stable (ltC (cfO o)) d x.toNat) (stable (ltC (cfO up00)) (untag d.toList).toArray x.toNat) o #[x] (#[]) (#[]) OK w h hN hm1 (by decide) (by show 0 ≤ 2000; decide) (by show 0 ≤ 2000; decide) (fun W hW => (HNum na ncap W hW).mono fun e w' ⟨u, v, h1, _, h3⟩ => ⟨u, v, h1, h3⟩) (fun e1 e2 => ?_) (fun e1 e2 => ?_)
  · obtain ⟨X, rfl, b0, g⟩ := hOK e1
    obtain ⟨z1, z2, z3⟩ := hsz e2
    try simp only [Int.toNat_natCast]
    exact ⟨size_stable (ltC (cfO o)) d X (by omega), fun t ht W hA hB => inner_stable t a cap d o na ncap X (by omega) W hA hB z1 z2 z3 (text_two t ht d o)⟩
  · obtain ⟨X, rfl, b0, g⟩ := hOK e1
    obtain ⟨z1, z2, z3⟩ := hsz e2
    try simp only [Int.toNat_natCast]
    refine ⟨(size_stable (ltC (cfO up00)) (untag d.toList).toArray X (by omega)).trans hu, fun t ht W pa pc hA hB => ?_⟩
    have := inner_stable t pa pc (untag d.toList).toArray up00 na ncap X (by omega) W hA hB (by omega) (by decide) (by decide) (text_bare t ht d.toList)
    rw [hu] at this
    exact this

theorem alk_15 (a na : Option Addr) (cap ncap : Nat) (d : Array It) (o : Ordr) (x y z : Int) (w : World) (h : Arg w a cap d) (hN : RdN w na #[x, y, z]) (hm1 : d.size ≤ 2147483647) :
    Calls Tryz.prog 6 #[.int .i64 15, .slice a d.size cap, vOrd o, .slice na 3 ncap] w fun e w' => e = .returned (.bool true) ∧ Below w.heap.size w w' := by
  obtain ⟨OK, hOK, HNum⟩ := numok_15 d.size x y z
  have hsz : fitsB d.size o = true → d.size ≤ 2000 ∧ 0 ≤ o.shift ∧ o.shift < 64 := fun e => by
    unfold fitsB at e
    simp only [Bool.and_eq_true, decide_eq_true_eq] at e
    exact ⟨e.1.1.1.1, e.1.2, e.2⟩
  have hu : (untag d.toList).toArray.size = d.size := by simp [untag]
  refine alk_calls 15 a na cap 3 ncap d (symMerge (ltC (cfO o)) d x.toNat y.toNat z.toNat) (symMerge (ltC (cfO up00)) (untag d.toList).toArray x.toNat y.toNat z.toNat) o #[x, y, z] (#[]) (#[]) OK w h hN hm1 (by decide) (by show 0 ≤ 2000; decide) (by show 0 ≤ 2000; decide) (fun W hW => (HNum na ncap W hW).mono fun e w' ⟨u, v, h1, _, h3⟩ => ⟨u, v, h1, h3⟩) (fun e1 e2 => ?_) (fun e1 e2 => ?_)
  · obtain ⟨X, Y, Z, rfl, rfl, rfl, b0, b1, b2, g⟩ := hOK e1
    obtain ⟨z1, z2, z3⟩ := hsz e2
    try simp only [Int.toNat_natCast]
    exact ⟨size_symMerge (ltC (cfO o)) d X Y Z (by omega) (by omega) (by omega), fun t ht W hA hB => inner_symMerge t a cap d o na ncap X Y Z (by omega) (by omega) (by omega) W hA hB z1 z2 z3 (text_two t ht d o)⟩
  · obtain ⟨X, Y, Z, rfl, rfl, rfl, b0, b1, b2, g⟩ := hOK e1
    obtain ⟨z1, z2, z3⟩ := hsz e2
    try simp only [Int.toNat_natCast]
    refine ⟨(size_symMerge (ltC (cfO up00)) (untag d.toList).toArray X Y Z (by omega) (by omega) (by omega)).trans hu, fun t ht W pa pc hA hB => ?_⟩
    have := inner_symMerge t pa pc (untag d.toList).toArray up00 na ncap X Y Z (by omega) (by omega) (by omega) W hA hB (by omega) (by decide) (by decide) (text_bare t ht d.toList)
    rw [hu] at this
    exact this

theorem alk_16 (a na : Option Addr) (cap ncap : Nat) (d : Array It) (o : Ordr) (x y z : Int) (w : World) (h : Arg w a cap d) (hN : RdN w na #[x, y, z]) (hm1 : d.size ≤ 2147483647) :
    Calls Tryz.prog 6 #[.int .i64 16, .slice a d.size cap, vOrd o, .slice na 3 ncap] w fun e w' => e = .returned (.bool true) ∧ Below w.heap.size w w' := by
  obtain ⟨OK, hOK, HNum⟩ := numok_16 d.size x y z
  have hsz : fitsB d.size o = true → d.size ≤ 2000 ∧ 0 ≤ o.shift ∧ o.shift < 64 := fun e => by
    unfold fitsB at e
    simp only [Bool.and_eq_true, decide_eq_true_eq] at e
    exact ⟨e.1.1.1.1, e.1.2, e.2⟩
  have hu : (untag d.toList).toArray.size = d.size := by simp [untag]
  refine alk_calls 16 a na cap 3 ncap d (rotate d x.toNat y.toNat z.toNat) (rotate (untag d.toList).toArray x.toNat y.toNat z.toNat) o #[x, y, z] (#[]) (#[]) OK w h hN hm1 (by decide) (by show 0 ≤ 2000; decide) (by show 0 ≤ 2000; decide) (fun W hW => (HNum na ncap W hW).mono fun e w' ⟨u, v, h1, _, h3⟩ => ⟨u, v, h1, h3⟩) (fun e1 e2 => ?_) (fun e1 e2 => ?_)
  · obtain ⟨X, Y, Z, rfl, rfl, rfl, b0, b1, b2, g⟩ := hOK e1
    obtain ⟨z1, z2, z3⟩ := hsz e2
    try simp only [Int.toNat_natCast]
    exact ⟨size_rotate (ltC (cfO o)) d X Y Z (by omega) (by omega) (by omega), fun t ht W hA hB => inner_rotate t a cap d o na ncap X Y Z (by omega) (by omega) (by omega) W hA hB z1 z2 z3 (text_two t ht d o)⟩
  · obtain ⟨X, Y, Z, rfl, rfl, rfl, b0, b1, b2, g⟩ := hOK e1
    obtain ⟨z1, z2, z3⟩ := hsz e2
    try simp only [Int.toNat_natCast]
    refine ⟨(size_rotate (ltC (cfO up00)) (untag d.toList).toArray X Y Z (by omega) (by omega) (by omega)).trans hu, fun t ht W pa pc hA hB => ?_⟩
    have := inner_rotate t pa pc (untag d.toList).toArray up00 na ncap X Y Z (by omega) (by omega) (by omega) W hA hB (by omega) (by decide) (by decide) (text_bare t ht d.toList)
    rw [hu] at this
    exact this

end Go.Proofs.YtglgmkikegbchaaGreat

/- FnAlike. -/
namespace Go.Proofs.YtglgmkikegbchaaGreat
open Go.ChangeShapes Go.WideShapes Go.ChangeAt Go.RowKit Go.Deep Go.Sort

theorem alk_bad (f : Int) (a na : Option Addr) (cap ncap : Nat) (d : Array It) (o : Ordr) (ns : Array Int) (w : World) (h : Arg w a cap d) (hN : RdN w na ns) (hf : (Lit.int .i64 f).wf = true) (hm1 : d.size ≤ 2147483647) (hm2 : ns.size ≤ 2147483647) (hbad : f < 0 ∨ 17 ≤ f ∨ (ns.size : Int) ≠ wantF f) :
    Calls Tryz.prog 6 #[.int .i64 f, .slice a d.size cap, vOrd o, .slice na ns.size ncap] w fun e w' => e = .returned (.bool true) ∧ Below w.heap.size w w' :=
  alk_calls f a na cap ns.size ncap d d d o ns #[] #[] false w h hN hm1 hm2 (by decide) (by decide) (fun W hW => (numbers_bad f d.size na ncap ns.size ns W hW rfl hf (by omega) (hbad.elim Or.inl fun h => h.elim (fun h => Or.inr (Or.inl h)) fun h => Or.inr (Or.inr (Or.inl h)))).mono fun e w' ⟨h1, h2⟩ => ⟨_, _, h1, h2⟩) (fun e => by cases e) (fun e => by cases e)

set_option maxHeartbeats 4000000 in
set_option maxRecDepth 1000000 in
theorem fnAlike_walk (f : Int) (a na : Option Addr) (cap ncap : Nat) (d : Array It) (o : Ordr) (ns : Array Int) (w : World) (h : Arg w a cap d) (hN : RdN w na ns) (hf : (Lit.int .i64 f).wf = true) :
    Calls Tryz.prog 6 #[.int .i64 f, .slice a d.size cap, vOrd o, .slice na ns.size ncap] w fun e w' => e = .returned (.bool true) ∧ Below w.heap.size w w' := by
  by_cases hbig : 2147483647 < d.size ∨ 2147483647 < ns.size
  · obtain ⟨n, hn⟩ : ∃ n, n = d.size := ⟨_, rfl⟩
    obtain ⟨m, hm⟩ : ∃ m, m = ns.size := ⟨_, rfl⟩
    rw [← hn, ← hm] at hbig ⊢
    obtain ⟨k, s, m0, m1, m2⟩ := o
    have B0 : Aside (Below w.heap.size w (w.alloc (.cells #[.int .i64 k, .int .i64 s, .int .u64 m0, .int .u64 m1, .int .u64 m2] 26))) := below_alloc _ _
    clear hn hm
    by_cases h1 : 2147483647 < n
    · have h1z : (2147483647 : Int) < (n : Int) := by omega
      go_enter Tryz.func6, Tryz.ntmps6
      go_wp2_with fail
      go_ret
      exact ⟨rfl, B0.out⟩
    · have h1z : ¬ (2147483647 : Int) < (n : Int) := by omega
      have h2z : (2147483647 : Int) < (m : Int) := by omega
      go_enter Tryz.func6, Tryz.ntmps6
      go_wp2_with fail
      go_ret
      exact ⟨rfl, B0.out⟩
  · have hm1 : d.size ≤ 2147483647 := by omega
    have hm2 : ns.size ≤ 2147483647 := by omega
    clear hbig
    by_cases hv : f < 0 ∨ 17 ≤ f
    · exact alk_bad _ a na cap ncap d o ns w h hN hf hm1 hm2 (hv.elim Or.inl fun h => Or.inr (Or.inl h))
    · rcases (show f = 0 ∨ f = 1 ∨ f = 2 ∨ f = 3 ∨ f = 4 ∨ f = 5 ∨ f = 6 ∨ f = 7 ∨ f = 8 ∨ f = 9 ∨ f = 10 ∨ f = 11 ∨ f = 12 ∨ f = 13 ∨ f = 14 ∨ f = 15 ∨ f = 16 by omega) with rfl | rfl | rfl | rfl | rfl | rfl | rfl | rfl | rfl | rfl | rfl | rfl | rfl | rfl | rfl | rfl | rfl
      · by_cases hs : ns.size = 2
        · obtain ⟨x, y, rfl⟩ := arr2 hs
          exact alk_0 a na cap ncap d o x y w h hN hm1
        · exact alk_bad _ a na cap ncap d o ns w h hN hf hm1 hm2 (Or.inr (Or.inr (by rw [show wantF 0 = 2 from by kernel_rfl]; omega)))
      · by_cases hs : ns.size = 3
        · obtain ⟨x, y, z, rfl⟩ := arr3 hs
          exact alk_1 a na cap ncap d o x y z w h hN hm1
        · exact alk_bad _ a na cap ncap d o ns w h hN hf hm1 hm2 (Or.inr (Or.inr (by rw [show wantF 1 = 3 from by kernel_rfl]; omega)))
      · by_cases hs : ns.size = 2
        · obtain ⟨x, y, rfl⟩ := arr2 hs
          exact alk_2 a na cap ncap d o x y w h hN hm1
        · exact alk_bad _ a na cap ncap d o ns w h hN hf hm1 hm2 (Or.inr (Or.inr (by rw [show wantF 2 = 2 from by kernel_rfl]; omega)))
      · by_cases hs : ns.size = 3
        · obtain ⟨x, y, z, rfl⟩ := arr3 hs
          exact alk_3 a na cap ncap d o x y z w h hN hm1
        · exact alk_bad _ a na cap ncap d o ns w h hN hf hm1 hm2 (Or.inr (Or.inr (by rw [show wantF 3 = 3 from by kernel_rfl]; omega)))
      · by_cases hs : ns.size = 3
        · obtain ⟨x, y, z, rfl⟩ := arr3 hs
          exact alk_4 a na cap ncap d o x y z w h hN hm1
        · exact alk_bad _ a na cap ncap d o ns w h hN hf hm1 hm2 (Or.inr (Or.inr (by rw [show wantF 4 = 3 from by kernel_rfl]; omega)))
      · by_cases hs : ns.size = 3
        · obtain ⟨x, y, z, rfl⟩ := arr3 hs
          exact alk_5 a na cap ncap d o x y z w h hN hm1
        · exact alk_bad _ a na cap ncap d o ns w h hN hf hm1 hm2 (Or.inr (Or.inr (by rw [show wantF 5 = 3 from by kernel_rfl]; omega)))
      · by_cases hs : ns.size = 2
        · obtain ⟨x, y, rfl⟩ := arr2 hs
          exact alk_6 a na cap ncap d o x y w h hN hm1
        · exact alk_bad _ a na cap ncap d o ns w h hN hf hm1 hm2 (Or.inr (Or.inr (by rw [show wantF 6 = 2 from by kernel_rfl]; omega)))
      · by_cases hs : ns.size = 2
        · obtain ⟨x, y, rfl⟩ := arr2 hs
          exact alk_7 a na cap ncap d o x y w h hN hm1
        · exact alk_bad _ a na cap ncap d o ns w h hN hf hm1 hm2 (Or.inr (Or.inr (by rw [show wantF 7 = 2 from by kernel_rfl]; omega)))
      · by_cases hs : ns.size = 2
        · obtain ⟨x, y, rfl⟩ := arr2 hs
          exact alk_8 a na cap ncap d o x y w h hN hm1
        · exact alk_bad _ a na cap ncap d o ns w h hN hf hm1 hm2 (Or.inr (Or.inr (by rw [show wantF 8 = 2 from by kernel_rfl]; omega)))
      · by_cases hs : ns.size = 2
        · obtain ⟨x, y, rfl⟩ := arr2 hs
          exact alk_9 a na cap ncap d o x y w h hN hm1
        · exact alk_bad _ a na cap ncap d o ns w h hN hf hm1 hm2 (Or.inr (Or.inr (by rw [show wantF 9 = 2 from by kernel_rfl]; omega)))
      · by_cases hs : ns.size = 3
        · obtain ⟨x, y, z, rfl⟩ := arr3 hs
          exact alk_10 a na cap ncap d o x y z w h hN hm1
        · exact alk_bad _ a na cap ncap d o ns w h hN hf hm1 hm2 (Or.inr (Or.inr (by rw [show wantF 10 = 3 from by kernel_rfl]; omega)))
      · by_cases hs : ns.size = 1
        · obtain ⟨x, rfl⟩ := arr1 hs
          exact alk_11 a na cap ncap d o x w h hN hm1
        · exact alk_bad _ a na cap ncap d o ns w h hN hf hm1 hm2 (Or.inr (Or.inr (by rw [show wantF 11 = 1 from by kernel_rfl]; omega)))
      · by_cases hs : ns.size = 2
        · obtain ⟨x, y, rfl⟩ := arr2 hs
          exact alk_12 a na cap ncap d o x y w h hN hm1
        · exact alk_bad _ a na cap ncap d o ns w h hN hf hm1 hm2 (Or.inr (Or.inr (by rw [show wantF 12 = 2 from by kernel_rfl]; omega)))
      · by_cases hs : ns.size = 3
        · obtain ⟨x, y, z, rfl⟩ := arr3 hs
          exact alk_13 a na cap ncap d o x y z w h hN hm1
        · exact alk_bad _ a na cap ncap d o ns w h hN hf hm1 hm2 (Or.inr (Or.inr (by rw [show wantF 13 = 3 from by kernel_rfl]; omega)))
      · by_cases hs : ns.size = 1
        · obtain ⟨x, rfl⟩ := arr1 hs
          exact alk_14 a na cap ncap d o x w h hN hm1
        · exact alk_bad _ a na cap ncap d o ns w h hN hf hm1 hm2 (Or.inr (Or.inr (by rw [show wantF 14 = 1 from by kernel_rfl]; omega)))
      · by_cases hs : ns.size = 3
        · obtain ⟨x, y, z, rfl⟩ := arr3 hs
          exact alk_15 a na cap ncap d o x y z w h hN hm1
        · exact alk_bad _ a na cap ncap d o ns w h hN hf hm1 hm2 (Or.inr (Or.inr (by rw [show wantF 15 = 3 from by kernel_rfl]; omega)))
      · by_cases hs : ns.size = 3
        · obtain ⟨x, y, z, rfl⟩ := arr3 hs
          exact alk_16 a na cap ncap d o x y z w h hN hm1
        · exact alk_bad _ a na cap ncap d o ns w h hN hf hm1 hm2 (Or.inr (Or.inr (by rw [show wantF 16 = 3 from by kernel_rfl]; omega)))

set_option maxRecDepth 100000 in
theorem fnAlike_lifted (os : Os) (started : os.Started) (H : Type) (enc : TypeId × Value → H) :
    ReturnsInHanded {} Tryz.checked os 6 .any (Rows.fnAlikeSpec.pre6 enc Tryz.prog Tryz.f6 Rows.fnAlikeRow.domain false) (Rows.fnAlikeSpec.post enc Tryz.prog Tryz.f6 false true false false) := by
  refine returnsInHanded_of_change (C := Tryz.checked) own started (by kernel_rfl) Tryz.func6
    (ChangeSpec.witness6 (enc := enc) (C := Tryz.checked) false ⟨#[], #[.int .i64 0, .slice none 0 0, .agg #[.int .i64 0, .int .i64 0, .int .u64 0, .int .u64 0, .int .u64 0], .slice none 0 0], []⟩ 8 (by kernel_rfl) (by kernel_rfl) (by kernel_rfl) (by kernel_rfl)) ?_
  intro W base args ds gs before hval0 hW _ _
  have hval : ∀ (j : Nat) t v, Tryz.f6.params[j]? = some t → args[j]? = some v → Value.okWide Tryz.prog W .any base t v := hval0
  have hW' := hW
  obtain ⟨p, q, hA0, hV, rfl, _, _⟩ := hW
  have hA : DataW.TrodAll enc Tryz.prog W 0 (fun _ => true) true Tryz.f6.params.toList args.toList ds p := hA0
  rw [Tryz.params6] at hA hval
  obtain ⟨v0, vs0, d0, ds0, p0, q0, hargs, rfl, rfl, h0, r0⟩ := trodAll_cons hA
  obtain ⟨v1, vs1, d1, ds1, p1, q1, rfl, rfl, rfl, h1, r1⟩ := trodAll_cons r0
  obtain ⟨v2, vs2, d2, ds2, p2, q2, rfl, rfl, rfl, h2, r2⟩ := trodAll_cons r1
  obtain ⟨v3, vs3, d3, ds3, p3, q3, rfl, rfl, rfl, h3, r3⟩ := trodAll_cons r2
  obtain ⟨rfl, rfl, rfl⟩ := trodAll_nil r3
  obtain rfl : args = #[v0, v1, v2, v3] := by cases args; simp_all
  obtain ⟨f, rfl, f_lo, f_hi⟩ := open_i64 Tryz.underlying3 (hval 0 3 v0 rfl rfl)
  obtain ⟨a, len, cap, rfl⟩ := okWide_slice Tryz.underlying22 (hval 1 22 v1 rfl rfl)
  obtain ⟨o, rfl, _⟩ := open_order (hval 2 26 v2 rfl rfl)
  obtain ⟨na, nlen, ncap, rfl⟩ := okWide_slice Tryz.underlying29 (hval 3 29 v3 rfl rfl)
  obtain ⟨fuel, hf⟩ := h1
  obtain ⟨d, rfl, hArg, hIn⟩ := open_arg hf
  obtain ⟨fuel2, hf2⟩ := h3
  obtain ⟨ns, rfl, hNs⟩ := open_nums hf2
  refine (fnAlike_walk f a na cap ncap d o ns W hArg hNs (WalkArith.wf_i64 ⟨f_lo, f_hi⟩)).mono fun e W' ⟨he, hB⟩ => ?_
  subst he
  exact ⟨_, rfl, post_true hW' rfl (by rw [Tryz.params6]; decide) rfl rfl hB⟩

theorem fnAlike_over : Rows.fnAlikeRow.holds Tryz.pinned (OpenSpec.ofChange Rows.fnAlikeSpec) :=
  OpenClaim.holds_of_wide 6 Tryz.f6 rfl rfl rfl rfl rfl rfl rfl ⟨rfl, rfl, rfl, rfl, rfl⟩ rfl rfl rfl rfl rfl (by kernel_rfl) Tryz.func6 (by kernel_rfl)
    (of_decide_eq_true (by kernel_rfl)) (by unfold Func.isWrapper; first | (rw [if_pos (by decide +kernel)]; kernel_rfl) | (rw [if_neg (by decide +kernel)]; exact ⟨rfl, rfl⟩))
    (fun os started H enc _ => fnAlike_lifted os started H enc)

theorem fnAlike_proved : Rows.FnAlikeSaid := fnAlike_over
end Go.Proofs.YtglgmkikegbchaaGreat
