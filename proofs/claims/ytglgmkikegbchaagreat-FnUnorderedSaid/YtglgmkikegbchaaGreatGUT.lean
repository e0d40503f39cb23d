/- Texts of this claim, laid together: zOpenN, zUno, zUnoAll, zFnUnordered. -/
import Derived.Test.YtglgmkikegbchaaGreatGBS
import Derived.Test.YtglgmkikegbchaaGreatGOK
import Derived.Test.YtglgmkikegbchaaGreatGBA
import Derived.Test.YtglgmkikegbchaaGreatGBB
import Derived.Test.YtglgmkikegbchaaGreatGBC
/- A list of numbers that came in. -/
namespace Go.Proofs.YtglgmkikegbchaaGreat
open Go.ChangeShapes Go.WideShapes Go.ChangeAt Go.RowKit Go.Deep Go.Sort

theorem open_nums {H : Type} {enc : TypeId × Value → H} {W : World} {fuel : Nat} {a : Option Addr} {len cap : Nat} {x : DataW H × List MemPlace} (h : DataW.trod enc Tryz.prog W 0 (fun _ => true) true fuel 29 [.slice a len cap] = some x) :
    ∃ d : Array Int, d.size = len ∧ RdN W a d := by
  rcases open_slice1 Tryz.underlying29 (by kernel_rfl) h with ⟨hc, _⟩ | ⟨a', len', cap', m, n, V, D, Pl, hc, _, hl, hm, hmm, _, hall⟩
  · simp only [List.cons.injEq, and_true, Value.slice.injEq] at hc
    obtain ⟨rfl, rfl, rfl⟩ := hc
    exact ⟨#[], rfl, fun h => absurd h (by simp)⟩
  · simp only [List.cons.injEq, and_true, Value.slice.injEq] at hc
    obtain ⟨rfl, rfl, rfl⟩ := hc
    simp only [if_true] at hmm
    subst hmm
    have hb : ∀ i, i < m → ∃ x : Int, V i = .int .i64 x := fun i hi => by
      obtain ⟨x, h1, _⟩ := DataW.trod_int Tryz.underlying3 (hall i hi).2
      simp only [List.cons.injEq, and_true] at h1
      exact ⟨x, h1⟩
    let X : Nat → Int := fun i => if h : i < m then (hb i h).choose else 0
    have hX : ∀ i, i < len → V i = .int .i64 (X i) := fun i hi => by
      have hi' : i < m := by omega
      simp only [X, dif_pos hi']
      exact (hb i hi').choose_spec
    let d : Array Int := ((List.range len).map X).toArray
    have hd : ∀ i, i < len → d[i]! = X i := fun i hi => by
      have : d[i]? = some (X i) := by simp [d, hi]
      rw [getElem!_def, this]
    refine ⟨d, by simp [d], fun h0 => ?_⟩
    have h0' : 0 < len := by simpa [d] using h0
    obtain ⟨b, off, spot⟩ := a'
    have hspot : spot = none := by simpa [Addr.add] using World.cell?_spot (hall 0 (by omega)).1
    subst hspot
    refine ⟨b, off, rfl, World.block_lt_of_cell? _ _ (hall 0 (by omega)).1, fun i hi => ?_⟩
    have hi' : i < len := by simpa [d] using hi
    rw [hd i hi', ← hX i hi', ← Go.WideShapes.add_plain]
    exact (hall i (by omega)).1

theorem arr1 {ns : Array Int} (h : ns.size = 1) : ∃ x, ns = #[x] := by
  obtain ⟨l⟩ := ns
  match l, h with
  | [x], _ => exact ⟨x, rfl⟩
theorem arr2 {ns : Array Int} (h : ns.size = 2) : ∃ x y, ns = #[x, y] := by
  obtain ⟨l⟩ := ns
  match l, h with
  | [x, y], _ => exact ⟨x, y, rfl⟩
theorem arr3 {ns : Array Int} (h : ns.size = 3) : ∃ x y z, ns = #[x, y, z] := by
  obtain ⟨l⟩ := ns
  match l, h with
  | [x, y, z], _ => exact ⟨x, y, z, rfl⟩
end Go.Proofs.YtglgmkikegbchaaGreat

/- laws.FnUnordered, out of the contracts of Numbers, Leans and Inner. -/
namespace Go.Proofs.YtglgmkikegbchaaGreat
open Go.RowKit Go.Sort

set_option maxHeartbeats 4000000 in
set_option maxRecDepth 1000000 in
theorem uno_calls (t f : Int) (a na : Option Addr) (cap n ncap A B : Nat) (d d' : Array It) (o : Ordr) (ns nums : Array Int) (OK L : Bool) (w : World) (h : Arg w a cap d) (hr : inR d) (hN : RdN w na ns) (hm1 : d.size ≤ 2147483647) (hm2 : n ≤ 2147483647)
    (HN : ∀ W, RdN W na ns → Calls Tryz.prog 26 #[.int .i64 f, .int .i64 d.size, .slice na n ncap] W fun e w' => ∃ u v, e = .returned (.tuple #[u, v, .bool OK]) ∧ (OK = true → u = .int .i64 (A : Int) ∧ v = .int .i64 (B : Int)) ∧ Below W.heap.size W w')
    (HL : OK = true → ∀ W, Calls Tryz.prog 27 #[.int .i64 f] W fun e w' => e = .returned (.bool L) ∧ w' = W)
    (HI : OK = true → (L = false ∨ A = 0) → fitsB d.size o = true → textB t d o = true → ∀ W, Rd2 W a d → RdN W na ns → Calls Tryz.prog 28 #[.int .i64 t, .int .i64 f, .slice a d.size cap, vOrd o, .slice na n ncap] W (InnerTo W d' nums))
    (HP : OK = true → (L = false ∨ A = 0) → A ≤ B ∧ B ≤ d.size ∧ PermIn A B d d') :
    Calls Tryz.prog 5 #[.int .i64 t, .int .i64 f, .slice a d.size cap, vOrd o, .slice na n ncap] w fun e w' => e = .returned (.bool true) ∧ Below w.heap.size w w' := by
  obtain ⟨m, hm⟩ : ∃ m, m = d.size := ⟨_, rfl⟩
  have hs' : OK = true → (L = false ∨ A = 0) → d'.size = m := fun e1 e2 => (HP e1 e2).2.2.1.trans hm.symm
  obtain ⟨k, s, m0, m1, m2⟩ := o
  obtain ⟨F, hF⟩ : ∃ F, F = fitsB d.size ⟨k, s, m0, m1, m2⟩ := ⟨_, rfl⟩
  obtain ⟨T, hT⟩ : ∃ T, T = textB t d ⟨k, s, m0, m1, m2⟩ := ⟨_, rfl⟩
  have fits := fun W => fits_calls a cap d.size ⟨k, s, m0, m1, m2⟩ W
  have text := fun W h hz => text_calls t a cap d.size d ⟨k, s, m0, m1, m2⟩ W h rfl hz
  rw [← hF] at fits HI
  rw [← hT] at text HI
  have hz : F = true → d.size ≤ 2000 := fun e => by
    rw [e] at hF
    unfold fitsB at hF
    simp only [Bool.true_eq, Bool.and_eq_true, decide_eq_true_eq] at hF
    exact hF.1.1.1.1
  have KP : Aside (∀ (W : World) (b bcap : Nat), OK = true → (L = false ∨ A = 0) → F = true → Arg W a cap d → b < W.heap.size → d'.size ≤ bcap → Holds2 W b 0 d' → Calls Tryz.prog 29 #[.slice a d.size cap, .slice (some ⟨b, 0, none⟩) d'.size bcap, .int .i64 A, .int .i64 B] W fun e w' => e = .returned (.bool true) ∧ Below W.heap.size W w') := fun W b bcap e1 e2 e3 hA hb hc hH => by
    obtain ⟨p1, p2, p3⟩ := HP e1 e2
    have := kept_calls a cap bcap d.size A B b d d' W hA (fun _ => ⟨b, 0, rfl, hb, fun i hi => ⟨(hH i hi).1, (hH i hi).2.1⟩⟩) rfl (by rw [← p3.1]; exact hc) (hz e3) hr p1 p2 p3
    rw [p3.1]; exact this
  rw [← hm] at fits text HN HI KP hm1 hz ⊢
  have h1z : ¬ (2147483647 : Int) < (m : Int) := by omega
  have h2z : ¬ (2147483647 : Int) < (n : Int) := by omega
  have B0 : Aside (Below w.heap.size w (w.alloc (.cells #[.int .i64 k, .int .i64 s, .int .u64 m0, .int .u64 m1, .int .u64 m2] 26))) := below_alloc _ _
  have K0 : Aside (BoxK (w.alloc (.cells #[.int .i64 k, .int .i64 s, .int .u64 m0, .int .u64 m1, .int .u64 m2] 26)) w.heap.size k s m0 m1 m2) := boxK_new _ _ _ _ _ _ _
  have R0 : Aside (Arg w a cap d ∧ RdN w na ns) := ⟨h, hN⟩
  have QI : Aside _ := HI
  have QL : Aside _ := HL
  have Qz : Aside _ := hz
  have Qs : Aside _ := hs'
  clear h hN hF hT HI HL hz HP hr hm1 hm2 hm hs'
  go_enter Tryz.func5, Tryz.ntmps5
  go_wp2_with fail
  refine (fits _).mono ?_
  rintro e w1 ⟨rfl, hb⟩
  have B1 : Aside (Below w.heap.size w w1) := Below.next B0.out hb
  have K1 : Aside (BoxK w1 w.heap.size k s m0 m1 m2) := K0.out.keep hb
  clear hb K0 B0 fits
  cases F with
  | false =>
    go_wp2_with fail
    refine (works_calls _).mono ?_
    rintro e w2 ⟨rfl, hb⟩
    go_wp2_with fail
    go_ret
    exact ⟨rfl, Below.next B1.out hb⟩
  | true =>
    obtain ⟨_, k0, k1, k2, k3, k4⟩ := K1.out
    have hx := text w1 (R0.out.1.rd.keep B1.out) (Qz.out (by trivial))
    go_wp2_with fail
    refine hx.mono ?_
    rintro e w3 ⟨rfl, hb⟩
    have B3 : Aside (Below w.heap.size w w3) := Below.next B1.out hb
    have K3 : Aside (BoxK w3 w.heap.size k s m0 m1 m2) := K1.out.keep hb
    clear hb K1 B1 text hx k0 k1 k2 k3 k4
    cases T with
    | false =>
      go_wp2_with fail
      refine (works_calls _).mono ?_
      rintro e w2 ⟨rfl, hb⟩
      go_wp2_with fail
      go_ret
      exact ⟨rfl, Below.next B3.out hb⟩
    | true =>
      have hx := HN w3 (R0.out.2.keep B3.out)
      go_wp2_with fail
      refine hx.mono ?_
      rintro e w4 ⟨u, v, rfl, huv, hb⟩
      have B4 : Aside (Below w.heap.size w w4) := Below.next B3.out hb
      have K4 : Aside (BoxK w4 w.heap.size k s m0 m1 m2) := K3.out.keep hb
      clear hb K3 B3 HN hx
      cases OK with
      | false =>
        clear huv
        go_wp2_with fail
        refine (works_calls _).mono ?_
        rintro e w2 ⟨rfl, hb⟩
        go_wp2_with fail
        go_ret
        exact ⟨rfl, Below.next B4.out hb⟩
      | true =>
        obtain ⟨rfl, rfl⟩ := huv rfl
        clear huv
        by_cases hL : L = true ∧ 0 < A
        · obtain ⟨rfl, hA⟩ := hL
          have hAz : (A : Int) > 0 := by omega
          go_wp2_with fail
          refine (QL.out (by trivial) _).mono ?_
          rintro e w' ⟨rfl, rfl⟩
          go_wp2_with fail
          refine (works_calls _).mono ?_
          rintro e w2 ⟨rfl, hb⟩
          go_wp2_with fail
          go_ret
          exact ⟨rfl, Below.next B4.out hb⟩
        · have hor : L = false ∨ A = 0 := by
            cases L with
            | false => exact Or.inl rfl
            | true => exact Or.inr (Nat.eq_zero_of_not_pos fun h => hL ⟨rfl, h⟩)
          clear hL
          cases L with
          | false =>
            have hor' : Aside _ := hor
            clear hor
            obtain ⟨_, k0, k1, k2, k3, k4⟩ := K4.out
            have hx := QI.out (by trivial) hor'.out (by trivial) (by trivial) w4 (R0.out.1.rd.keep B4.out) (R0.out.2.keep B4.out)
            go_wp2_with fail
            refine (QL.out (by trivial) _).mono ?_
            rintro e w' ⟨rfl, rfl⟩
            go_wp2_with fail
            refine hx.mono ?_
            rintro e w6 ⟨b, bcap, ra, rcap, rfl, hb1, hb2, hb3, hb4, hb5, hb⟩
            have B6 : Aside (Below w.heap.size w w6) := Below.next B4.out hb
            have hx := KP.out w6 b bcap (by trivial) hor'.out (by trivial) (R0.out.1.keep B6.out) hb2 hb3 hb4
            rw [Qs.out (by trivial) hor'.out] at hx
            try rw [Qs.out (by trivial) hor'.out]
            clear hb K4 B4 QI KP Qs hb1 hb2 hb3 hb4 hb5 k0 k1 k2 k3 k4
            go_wp2_with fail
            refine hx.mono ?_
            rintro e w7 ⟨rfl, hb⟩
            have B7 : Aside (Below w.heap.size w w7) := Below.next B6.out hb
            clear hb hx B6
            go_wp2_with fail
            refine (works_calls _).mono ?_
            rintro e w8 ⟨rfl, hb⟩
            go_wp2_with fail
            go_ret
            exact ⟨rfl, Below.next B7.out hb⟩
          | true =>
            obtain rfl : A = 0 := hor.elim (fun h => (by cases h)) id
            have hor' : Aside _ := hor
            clear hor
            obtain ⟨_, k0, k1, k2, k3, k4⟩ := K4.out
            have hx := QI.out (by trivial) hor'.out (by trivial) (by trivial) w4 (R0.out.1.rd.keep B4.out) (R0.out.2.keep B4.out)
            go_wp2_with fail
            refine (QL.out (by trivial) _).mono ?_
            rintro e w' ⟨rfl, rfl⟩
            go_wp2_with fail
            refine hx.mono ?_
            rintro e w6 ⟨b, bcap, ra, rcap, rfl, hb1, hb2, hb3, hb4, hb5, hb⟩
            have B6 : Aside (Below w.heap.size w w6) := Below.next B4.out hb
            have hx := KP.out w6 b bcap (by trivial) hor'.out (by trivial) (R0.out.1.keep B6.out) hb2 hb3 hb4
            rw [Qs.out (by trivial) hor'.out] at hx
            try rw [Qs.out (by trivial) hor'.out]
            clear hb K4 B4 QI KP Qs hb1 hb2 hb3 hb4 hb5 k0 k1 k2 k3 k4
            go_wp2_with fail
            refine hx.mono ?_
            rintro e w7 ⟨rfl, hb⟩
            have B7 : Aside (Below w.heap.size w w7) := Below.next B6.out hb
            clear hb hx B6
            go_wp2_with fail
            refine (works_calls _).mono ?_
            rintro e w8 ⟨rfl, hb⟩
            go_wp2_with fail
            go_ret
            exact ⟨rfl, Below.next B7.out hb⟩
end Go.Proofs.YtglgmkikegbchaaGreat

/- laws.FnUnordered of each function (printed by gen/sums.py). -/
namespace Go.Proofs.YtglgmkikegbchaaGreat
open Go.RowKit Go.Sort

theorem leans_0 (W : World) : Calls Tryz.prog 27 #[.int .i64 0] W fun e w' => e = .returned (.bool false) ∧ w' = W := by
  go_enter Tryz.func27, Tryz.ntmps27
  go_wp2
  go_ret
  exact ⟨rfl, rfl⟩

theorem uno_0 (t : Int) (a na : Option Addr) (cap ncap : Nat) (d : Array It) (o : Ordr) (x y : Int) (w : World) (h : Arg w a cap d) (hr : inR d) (hN : RdN w na #[x, y]) (hm1 : d.size ≤ 2147483647) :
    Calls Tryz.prog 5 #[.int .i64 t, .int .i64 0, .slice a d.size cap, vOrd o, .slice na 2 ncap] w fun e w' => e = .returned (.bool true) ∧ Below w.heap.size w w' := by
  obtain ⟨OK, hOK, HNum⟩ := numok_0 d.size x y
  have hsz : fitsB d.size o = true → d.size ≤ 2000 ∧ 0 ≤ o.shift ∧ o.shift < 64 := fun e => by
    unfold fitsB at e
    simp only [Bool.and_eq_true, decide_eq_true_eq] at e
    exact ⟨e.1.1.1.1, e.1.2, e.2⟩
  refine uno_calls t 0 a na cap 2 ncap (x.toNat) (y.toNat) d (insertionSort (ltC (cfO o)) d x.toNat y.toNat) o #[x, y] (#[]) OK false w h hr hN hm1 (by decide) (fun W hW => (HNum na ncap W hW).mono fun e w' ⟨u, v, h1, h2, h3⟩ => ⟨u, v, h1, fun e => ?_, h3⟩) (fun _ => leans_0) (fun e1 _ e2 e3 W hA hB => ?_) (fun e1 el => ?_)
  · obtain ⟨X, Y, rfl, rfl, b0, b1, g⟩ := hOK e
    have := h2 e X Y rfl rfl
    try simp only [Int.toNat_natCast]
    exact this
  · obtain ⟨X, Y, rfl, rfl, b0, b1, g⟩ := hOK e1
    obtain ⟨z1, z2, z3⟩ := hsz e2
    try simp only [Int.toNat_natCast]
    exact inner_insertionSort t a cap d o na ncap X Y (by omega) (by omega) W hA hB z1 z2 z3 e3
  · obtain ⟨X, Y, rfl, rfl, b0, b1, g⟩ := hOK e1
    try simp only [Int.toNat_natCast]
    exact ⟨by omega, by omega, perm_insertionSort (ltC (cfO o)) d X Y (by omega) (by omega)⟩

theorem leans_1 (W : World) : Calls Tryz.prog 27 #[.int .i64 1] W fun e w' => e = .returned (.bool false) ∧ w' = W := by
  go_enter Tryz.func27, Tryz.ntmps27
  go_wp2
  go_ret
  exact ⟨rfl, rfl⟩

theorem uno_1 (t : Int) (a na : Option Addr) (cap ncap : Nat) (d : Array It) (o : Ordr) (x y z : Int) (w : World) (h : Arg w a cap d) (hr : inR d) (hN : RdN w na #[x, y, z]) (hm1 : d.size ≤ 2147483647) :
    Calls Tryz.prog 5 #[.int .i64 t, .int .i64 1, .slice a d.size cap, vOrd o, .slice na 3 ncap] w fun e w' => e = .returned (.bool true) ∧ Below w.heap.size w w' := by
  obtain ⟨OK, hOK, HNum⟩ := numok_1 d.size x y z
  have hsz : fitsB d.size o = true → d.size ≤ 2000 ∧ 0 ≤ o.shift ∧ o.shift < 64 := fun e => by
    unfold fitsB at e
    simp only [Bool.and_eq_true, decide_eq_true_eq] at e
    exact ⟨e.1.1.1.1, e.1.2, e.2⟩
  refine uno_calls t 1 a na cap 3 ncap (z.toNat) (z.toNat + y.toNat) d (siftDown (ltC (cfO o)) y.toNat z.toNat x.toNat d) o #[x, y, z] (#[]) OK false w h hr hN hm1 (by decide) (fun W hW => (HNum na ncap W hW).mono fun e w' ⟨u, v, h1, h2, h3⟩ => ⟨u, v, h1, fun e => ?_, h3⟩) (fun _ => leans_1) (fun e1 _ e2 e3 W hA hB => ?_) (fun e1 el => ?_)
  · obtain ⟨X, Y, Z, rfl, rfl, rfl, b0, b1, b2, g⟩ := hOK e
    have := h2 e X Y Z rfl rfl rfl
    try simp only [Int.toNat_natCast]
    exact this
  · obtain ⟨X, Y, Z, rfl, rfl, rfl, b0, b1, b2, g⟩ := hOK e1
    obtain ⟨z1, z2, z3⟩ := hsz e2
    try simp only [Int.toNat_natCast]
    exact inner_siftDown t a cap d o na ncap X Y Z (by omega) (by omega) W hA hB z1 z2 z3 e3
  · obtain ⟨X, Y, Z, rfl, rfl, rfl, b0, b1, b2, g⟩ := hOK e1
    try simp only [Int.toNat_natCast]
    exact ⟨by omega, by omega, perm_siftDown (ltC (cfO o)) d X Y Z (by omega) (by omega)⟩

theorem leans_2 (W : World) : Calls Tryz.prog 27 #[.int .i64 2] W fun e w' => e = .returned (.bool false) ∧ w' = W := by
  go_enter Tryz.func27, Tryz.ntmps27
  go_wp2
  go_ret
  exact ⟨rfl, rfl⟩

theorem uno_2 (t : Int) (a na : Option Addr) (cap ncap : Nat) (d : Array It) (o : Ordr) (x y : Int) (w : World) (h : Arg w a cap d) (hr : inR d) (hN : RdN w na #[x, y]) (hm1 : d.size ≤ 2147483647) :
    Calls Tryz.prog 5 #[.int .i64 t, .int .i64 2, .slice a d.size cap, vOrd o, .slice na 2 ncap] w fun e w' => e = .returned (.bool true) ∧ Below w.heap.size w w' := by
  obtain ⟨OK, hOK, HNum⟩ := numok_2 d.size x y
  have hsz : fitsB d.size o = true → d.size ≤ 2000 ∧ 0 ≤ o.shift ∧ o.shift < 64 := fun e => by
    unfold fitsB at e
    simp only [Bool.and_eq_true, decide_eq_true_eq] at e
    exact ⟨e.1.1.1.1, e.1.2, e.2⟩
  refine uno_calls t 2 a na cap 2 ncap (x.toNat) (y.toNat) d (heapSort (ltC (cfO o)) d x.toNat y.toNat) o #[x, y] (#[]) OK false w h hr hN hm1 (by decide) (fun W hW => (HNum na ncap W hW).mono fun e w' ⟨u, v, h1, h2, h3⟩ => ⟨u, v, h1, fun e => ?_, h3⟩) (fun _ => leans_2) (fun e1 _ e2 e3 W hA hB => ?_) (fun e1 el => ?_)
  · obtain ⟨X, Y, rfl, rfl, b0, b1, g⟩ := hOK e
    have := h2 e X Y rfl rfl
    try simp only [Int.toNat_natCast]
    exact this
  · obtain ⟨X, Y, rfl, rfl, b0, b1, g⟩ := hOK e1
    obtain ⟨z1, z2, z3⟩ := hsz e2
    try simp only [Int.toNat_natCast]
    exact inner_heapSort t a cap d o na ncap X Y (by omega) (by omega) W hA hB z1 z2 z3 e3
  · obtain ⟨X, Y, rfl, rfl, b0, b1, g⟩ := hOK e1
    try simp only [Int.toNat_natCast]
    exact ⟨by omega, by omega, perm_heapSort (ltC (cfO o)) d X Y (by omega) (by omega)⟩

theorem leans_3 (W : World) : Calls Tryz.prog 27 #[.int .i64 3] W fun e w' => e = .returned (.bool true) ∧ w' = W := by
  go_enter Tryz.func27, Tryz.ntmps27
  go_wp2
  go_ret
  exact ⟨rfl, rfl⟩

theorem uno_3 (t : Int) (a na : Option Addr) (cap ncap : Nat) (d : Array It) (o : Ordr) (x y z : Int) (w : World) (h : Arg w a cap d) (hr : inR d) (hN : RdN w na #[x, y, z]) (hm1 : d.size ≤ 2147483647) :
    Calls Tryz.prog 5 #[.int .i64 t, .int .i64 3, .slice a d.size cap, vOrd o, .slice na 3 ncap] w fun e w' => e = .returned (.bool true) ∧ Below w.heap.size w w' := by
  obtain ⟨OK, hOK, HNum⟩ := numok_3 d.size x y z
  have hsz : fitsB d.size o = true → d.size ≤ 2000 ∧ 0 ≤ o.shift ∧ o.shift < 64 := fun e => by
    unfold fitsB at e
    simp only [Bool.and_eq_true, decide_eq_true_eq] at e
    exact ⟨e.1.1.1.1, e.1.2, e.2⟩
  refine uno_calls t 3 a na cap 3 ncap (x.toNat) (y.toNat) d (pdq (ltC (cfO o)) d x.toNat y.toNat z.toNat true true) o #[x, y, z] (#[]) OK true w h hr hN hm1 (by decide) (fun W hW => (HNum na ncap W hW).mono fun e w' ⟨u, v, h1, h2, h3⟩ => ⟨u, v, h1, fun e => ?_, h3⟩) (fun _ => leans_3) (fun e1 _ e2 e3 W hA hB => ?_) (fun e1 el => ?_)
  · obtain ⟨X, Y, Z, rfl, rfl, rfl, b0, b1, b2, g⟩ := hOK e
    have := h2 e X Y Z rfl rfl rfl
    try simp only [Int.toNat_natCast]
    exact this
  · obtain ⟨X, Y, Z, rfl, rfl, rfl, b0, b1, b2, g⟩ := hOK e1
    obtain ⟨z1, z2, z3⟩ := hsz e2
    try simp only [Int.toNat_natCast]
    exact inner_pdqsort t a cap d o na ncap X Y Z (by omega) (by omega) (by omega) W hA hB z1 z2 z3 e3
  · obtain ⟨X, Y, Z, rfl, rfl, rfl, b0, b1, b2, g⟩ := hOK e1
    obtain rfl : X = 0 := by rcases el with h | h
                             · cases h
                             · simpa using h
    try simp only [Int.toNat_natCast]
    exact ⟨by omega, by omega, perm_pdqsort (ltC (cfO o)) d 0 Y Z (by omega) (by omega) (by omega)⟩

theorem leans_4 (W : World) : Calls Tryz.prog 27 #[.int .i64 4] W fun e w' => e = .returned (.bool false) ∧ w' = W := by
  go_enter Tryz.func27, Tryz.ntmps27
  go_wp2
  go_ret
  exact ⟨rfl, rfl⟩

theorem uno_4 (t : Int) (a na : Option Addr) (cap ncap : Nat) (d : Array It) (o : Ordr) (x y z : Int) (w : World) (h : Arg w a cap d) (hr : inR d) (hN : RdN w na #[x, y, z]) (hm1 : d.size ≤ 2147483647) :
    Calls Tryz.prog 5 #[.int .i64 t, .int .i64 4, .slice a d.size cap, vOrd o, .slice na 3 ncap] w fun e w' => e = .returned (.bool true) ∧ Below w.heap.size w w' := by
  obtain ⟨OK, hOK, HNum⟩ := numok_4 d.size x y z
  have hsz : fitsB d.size o = true → d.size ≤ 2000 ∧ 0 ≤ o.shift ∧ o.shift < 64 := fun e => by
    unfold fitsB at e
    simp only [Bool.and_eq_true, decide_eq_true_eq] at e
    exact ⟨e.1.1.1.1, e.1.2, e.2⟩
  refine uno_calls t 4 a na cap 3 ncap (x.toNat) (y.toNat) d ((partition (ltC (cfO o)) d x.toNat y.toNat z.toNat).2.2) o #[x, y, z] (#[((partition (ltC (cfO o)) d x.toNat y.toNat z.toNat).1 : Int), flagN (partition (ltC (cfO o)) d x.toNat y.toNat z.toNat).2.1]) OK false w h hr hN hm1 (by decide) (fun W hW => (HNum na ncap W hW).mono fun e w' ⟨u, v, h1, h2, h3⟩ => ⟨u, v, h1, fun e => ?_, h3⟩) (fun _ => leans_4) (fun e1 _ e2 e3 W hA hB => ?_) (fun e1 el => ?_)
  · obtain ⟨X, Y, Z, rfl, rfl, rfl, b0, b1, b2, g⟩ := hOK e
    have := h2 e X Y Z rfl rfl rfl
    try simp only [Int.toNat_natCast]
    exact this
  · obtain ⟨X, Y, Z, rfl, rfl, rfl, b0, b1, b2, g⟩ := hOK e1
    obtain ⟨z1, z2, z3⟩ := hsz e2
    try simp only [Int.toNat_natCast]
    exact inner_partition t a cap d o na ncap X Y Z (by omega) (by omega) (by omega) (by omega) W hA hB z1 z2 z3 e3
  · obtain ⟨X, Y, Z, rfl, rfl, rfl, b0, b1, b2, g⟩ := hOK e1
    try simp only [Int.toNat_natCast]
    exact ⟨by omega, by omega, perm_partition (ltC (cfO o)) d X Y Z (by omega) (by omega) (by omega) (by omega)⟩

theorem leans_5 (W : World) : Calls Tryz.prog 27 #[.int .i64 5] W fun e w' => e = .returned (.bool false) ∧ w' = W := by
  go_enter Tryz.func27, Tryz.ntmps27
  go_wp2
  go_ret
  exact ⟨rfl, rfl⟩

theorem uno_5 (t : Int) (a na : Option Addr) (cap ncap : Nat) (d : Array It) (o : Ordr) (x y z : Int) (w : World) (h : Arg w a cap d) (hr : inR d) (hN : RdN w na #[x, y, z]) (hm1 : d.size ≤ 2147483647) :
    Calls Tryz.prog 5 #[.int .i64 t, .int .i64 5, .slice a d.size cap, vOrd o, .slice na 3 ncap] w fun e w' => e = .returned (.bool true) ∧ Below w.heap.size w w' := by
  obtain ⟨OK, hOK, HNum⟩ := numok_5 d.size x y z
  have hsz : fitsB d.size o = true → d.size ≤ 2000 ∧ 0 ≤ o.shift ∧ o.shift < 64 := fun e => by
    unfold fitsB at e
    simp only [Bool.and_eq_true, decide_eq_true_eq] at e
    exact ⟨e.1.1.1.1, e.1.2, e.2⟩
  refine uno_calls t 5 a na cap 3 ncap (x.toNat) (y.toNat) d ((partitionEqual (ltC (cfO o)) d x.toNat y.toNat z.toNat).2) o #[x, y, z] (#[((partitionEqual (ltC (cfO o)) d x.toNat y.toNat z.toNat).1 : Int)]) OK false w h hr hN hm1 (by decide) (fun W hW => (HNum na ncap W hW).mono fun e w' ⟨u, v, h1, h2, h3⟩ => ⟨u, v, h1, fun e => ?_, h3⟩) (fun _ => leans_5) (fun e1 _ e2 e3 W hA hB => ?_) (fun e1 el => ?_)
  · obtain ⟨X, Y, Z, rfl, rfl, rfl, b0, b1, b2, g⟩ := hOK e
    have := h2 e X Y Z rfl rfl rfl
    try simp only [Int.toNat_natCast]
    exact this
  · obtain ⟨X, Y, Z, rfl, rfl, rfl, b0, b1, b2, g⟩ := hOK e1
    obtain ⟨z1, z2, z3⟩ := hsz e2
    try simp only [Int.toNat_natCast]
    exact inner_partitionEqual t a cap d o na ncap X Y Z (by omega) (by omega) (by omega) (by omega) W hA hB z1 z2 z3 e3
  · obtain ⟨X, Y, Z, rfl, rfl, rfl, b0, b1, b2, g⟩ := hOK e1
    try simp only [Int.toNat_natCast]
    exact ⟨by omega, by omega, perm_partitionEqual (ltC (cfO o)) d X Y Z (by omega) (by omega) (by omega) (by omega)⟩

theorem leans_6 (W : World) : Calls Tryz.prog 27 #[.int .i64 6] W fun e w' => e = .returned (.bool true) ∧ w' = W := by
  go_enter Tryz.func27, Tryz.ntmps27
  go_wp2
  go_ret
  exact ⟨rfl, rfl⟩

theorem uno_6 (t : Int) (a na : Option Addr) (cap ncap : Nat) (d : Array It) (o : Ordr) (x y : Int) (w : World) (h : Arg w a cap d) (hr : inR d) (hN : RdN w na #[x, y]) (hm1 : d.size ≤ 2147483647) :
    Calls Tryz.prog 5 #[.int .i64 t, .int .i64 6, .slice a d.size cap, vOrd o, .slice na 2 ncap] w fun e w' => e = .returned (.bool true) ∧ Below w.heap.size w w' := by
  obtain ⟨OK, hOK, HNum⟩ := numok_6 d.size x y
  have hsz : fitsB d.size o = true → d.size ≤ 2000 ∧ 0 ≤ o.shift ∧ o.shift < 64 := fun e => by
    unfold fitsB at e
    simp only [Bool.and_eq_true, decide_eq_true_eq] at e
    exact ⟨e.1.1.1.1, e.1.2, e.2⟩
  refine uno_calls t 6 a na cap 2 ncap (x.toNat) (y.toNat) d ((partialInsertionSort (ltC (cfO o)) d x.toNat y.toNat).1) o #[x, y] (#[flagN (partialInsertionSort (ltC (cfO o)) d x.toNat y.toNat).2]) OK true w h hr hN hm1 (by decide) (fun W hW => (HNum na ncap W hW).mono fun e w' ⟨u, v, h1, h2, h3⟩ => ⟨u, v, h1, fun e => ?_, h3⟩) (fun _ => leans_6) (fun e1 _ e2 e3 W hA hB => ?_) (fun e1 el => ?_)
  · obtain ⟨X, Y, rfl, rfl, b0, b1, g⟩ := hOK e
    have := h2 e X Y rfl rfl
    try simp only [Int.toNat_natCast]
    exact this
  · obtain ⟨X, Y, rfl, rfl, b0, b1, g⟩ := hOK e1
    obtain ⟨z1, z2, z3⟩ := hsz e2
    try simp only [Int.toNat_natCast]
    exact inner_partialInsertionSort t a cap d o na ncap X Y (by omega) (by omega) W hA hB z1 z2 z3 e3
  · obtain ⟨X, Y, rfl, rfl, b0, b1, g⟩ := hOK e1
    obtain rfl : X = 0 := by rcases el with h | h
                             · cases h
                             · simpa using h
    try simp only [Int.toNat_natCast]
    exact ⟨by omega, by omega, perm_partialInsertionSort (ltC (cfO o)) d 0 Y (by omega) (by omega)⟩

theorem leans_7 (W : World) : Calls Tryz.prog 27 #[.int .i64 7] W fun e w' => e = .returned (.bool false) ∧ w' = W := by
  go_enter Tryz.func27, Tryz.ntmps27
  go_wp2
  go_ret
  exact ⟨rfl, rfl⟩

theorem uno_7 (t : Int) (a na : Option Addr) (cap ncap : Nat) (d : Array It) (o : Ordr) (x y : Int) (w : World) (h : Arg w a cap d) (hr : inR d) (hN : RdN w na #[x, y]) (hm1 : d.size ≤ 2147483647) :
    Calls Tryz.prog 5 #[.int .i64 t, .int .i64 7, .slice a d.size cap, vOrd o, .slice na 2 ncap] w fun e w' => e = .returned (.bool true) ∧ Below w.heap.size w w' := by
  obtain ⟨OK, hOK, HNum⟩ := numok_7 d.size x y
  have hsz : fitsB d.size o = true → d.size ≤ 2000 ∧ 0 ≤ o.shift ∧ o.shift < 64 := fun e => by
    unfold fitsB at e
    simp only [Bool.and_eq_true, decide_eq_true_eq] at e
    exact ⟨e.1.1.1.1, e.1.2, e.2⟩
  refine uno_calls t 7 a na cap 2 ncap (x.toNat) (y.toNat) d (breakPatterns d x.toNat y.toNat) o #[x, y] (#[]) OK false w h hr hN hm1 (by decide) (fun W hW => (HNum na ncap W hW).mono fun e w' ⟨u, v, h1, h2, h3⟩ => ⟨u, v, h1, fun e => ?_, h3⟩) (fun _ => leans_7) (fun e1 _ e2 e3 W hA hB => ?_) (fun e1 el => ?_)
  · obtain ⟨X, Y, rfl, rfl, b0, b1, g⟩ := hOK e
    have := h2 e X Y rfl rfl
    try simp only [Int.toNat_natCast]
    exact this
  · obtain ⟨X, Y, rfl, rfl, b0, b1, g⟩ := hOK e1
    obtain ⟨z1, z2, z3⟩ := hsz e2
    try simp only [Int.toNat_natCast]
    exact inner_breakPatterns t a cap d o na ncap X Y (by omega) (by omega) W hA hB z1 z2 z3 e3
  · obtain ⟨X, Y, rfl, rfl, b0, b1, g⟩ := hOK e1
    try simp only [Int.toNat_natCast]
    exact ⟨by omega, by omega, perm_breakPatterns (ltC (cfO o)) d X Y (by omega) (by omega)⟩

theorem leans_8 (W : World) : Calls Tryz.prog 27 #[.int .i64 8] W fun e w' => e = .returned (.bool false) ∧ w' = W := by
  go_enter Tryz.func27, Tryz.ntmps27
  go_wp2
  go_ret
  exact ⟨rfl, rfl⟩

theorem uno_8 (t : Int) (a na : Option Addr) (cap ncap : Nat) (d : Array It) (o : Ordr) (x y : Int) (w : World) (h : Arg w a cap d) (hr : inR d) (hN : RdN w na #[x, y]) (hm1 : d.size ≤ 2147483647) :
    Calls Tryz.prog 5 #[.int .i64 t, .int .i64 8, .slice a d.size cap, vOrd o, .slice na 2 ncap] w fun e w' => e = .returned (.bool true) ∧ Below w.heap.size w w' := by
  obtain ⟨OK, hOK, HNum⟩ := numok_8 d.size x y
  have hsz : fitsB d.size o = true → d.size ≤ 2000 ∧ 0 ≤ o.shift ∧ o.shift < 64 := fun e => by
    unfold fitsB at e
    simp only [Bool.and_eq_true, decide_eq_true_eq] at e
    exact ⟨e.1.1.1.1, e.1.2, e.2⟩
  refine uno_calls t 8 a na cap 2 ncap (x.toNat) (y.toNat) d (d) o #[x, y] (#[((choosePivot (ltC (cfO o)) d x.toNat y.toNat).1 : Int), hintCode (choosePivot (ltC (cfO o)) d x.toNat y.toNat).2]) OK false w h hr hN hm1 (by decide) (fun W hW => (HNum na ncap W hW).mono fun e w' ⟨u, v, h1, h2, h3⟩ => ⟨u, v, h1, fun e => ?_, h3⟩) (fun _ => leans_8) (fun e1 _ e2 e3 W hA hB => ?_) (fun e1 el => ?_)
  · obtain ⟨X, Y, rfl, rfl, b0, b1, g⟩ := hOK e
    have := h2 e X Y rfl rfl
    try simp only [Int.toNat_natCast]
    exact this
  · obtain ⟨X, Y, rfl, rfl, b0, b1, g⟩ := hOK e1
    obtain ⟨z1, z2, z3⟩ := hsz e2
    try simp only [Int.toNat_natCast]
    exact inner_choosePivot t a cap d o na ncap X Y (by omega) (by omega) W hA hB z1 z2 z3 e3
  · obtain ⟨X, Y, rfl, rfl, b0, b1, g⟩ := hOK e1
    try simp only [Int.toNat_natCast]
    exact ⟨by omega, by omega, permIn_refl d _ _⟩

theorem leans_9 (W : World) : Calls Tryz.prog 27 #[.int .i64 9] W fun e w' => e = .returned (.bool false) ∧ w' = W := by
  go_enter Tryz.func27, Tryz.ntmps27
  go_wp2
  go_ret
  exact ⟨rfl, rfl⟩

theorem uno_9 (t : Int) (a na : Option Addr) (cap ncap : Nat) (d : Array It) (o : Ordr) (x y : Int) (w : World) (h : Arg w a cap d) (hr : inR d) (hN : RdN w na #[x, y]) (hm1 : d.size ≤ 2147483647) :
    Calls Tryz.prog 5 #[.int .i64 t, .int .i64 9, .slice a d.size cap, vOrd o, .slice na 2 ncap] w fun e w' => e = .returned (.bool true) ∧ Below w.heap.size w w' := by
  obtain ⟨OK, hOK, HNum⟩ := numok_9 d.size x y
  have hsz : fitsB d.size o = true → d.size ≤ 2000 ∧ 0 ≤ o.shift ∧ o.shift < 64 := fun e => by
    unfold fitsB at e
    simp only [Bool.and_eq_true, decide_eq_true_eq] at e
    exact ⟨e.1.1.1.1, e.1.2, e.2⟩
  refine uno_calls t 9 a na cap 2 ncap (0) (0) d (d) o #[x, y] (#[((order2 (ltC (cfO o)) d x.toNat y.toNat 0).1 : Int), ((order2 (ltC (cfO o)) d x.toNat y.toNat 0).2.1 : Int), ((order2 (ltC (cfO o)) d x.toNat y.toNat 0).2.2 : Int)]) OK false w h hr hN hm1 (by decide) (fun W hW => (HNum na ncap W hW).mono fun e w' ⟨u, v, h1, h2, h3⟩ => ⟨u, v, h1, fun e => ?_, h3⟩) (fun _ => leans_9) (fun e1 _ e2 e3 W hA hB => ?_) (fun e1 el => ?_)
  · obtain ⟨X, Y, rfl, rfl, b0, b1, g⟩ := hOK e
    have := h2 e X Y rfl rfl
    try simp only [Int.toNat_natCast]
    exact this
  · obtain ⟨X, Y, rfl, rfl, b0, b1, g⟩ := hOK e1
    obtain ⟨z1, z2, z3⟩ := hsz e2
    try simp only [Int.toNat_natCast]
    exact inner_order2 t a cap d o na ncap X Y (by omega) (by omega) W hA hB z1 z2 z3 e3
  · obtain ⟨X, Y, rfl, rfl, b0, b1, g⟩ := hOK e1
    try simp only [Int.toNat_natCast]
    exact ⟨by omega, by omega, permIn_refl d _ _⟩

theorem leans_10 (W : World) : Calls Tryz.prog 27 #[.int .i64 10] W fun e w' => e = .returned (.bool false) ∧ w' = W := by
  go_enter Tryz.func27, Tryz.ntmps27
  go_wp2
  go_ret
  exact ⟨rfl, rfl⟩

theorem uno_10 (t : Int) (a na : Option Addr) (cap ncap : Nat) (d : Array It) (o : Ordr) (x y z : Int) (w : World) (h : Arg w a cap d) (hr : inR d) (hN : RdN w na #[x, y, z]) (hm1 : d.size ≤ 2147483647) :
    Calls Tryz.prog 5 #[.int .i64 t, .int .i64 10, .slice a d.size cap, vOrd o, .slice na 3 ncap] w fun e w' => e = .returned (.bool true) ∧ Below w.heap.size w w' := by
  obtain ⟨OK, hOK, HNum⟩ := numok_10 d.size x y z
  have hsz : fitsB d.size o = true → d.size ≤ 2000 ∧ 0 ≤ o.shift ∧ o.shift < 64 := fun e => by
    unfold fitsB at e
    simp only [Bool.and_eq_true, decide_eq_true_eq] at e
    exact ⟨e.1.1.1.1, e.1.2, e.2⟩
  refine uno_calls t 10 a na cap 3 ncap (0) (0) d (d) o #[x, y, z] (#[((median (ltC (cfO o)) d x.toNat y.toNat z.toNat 0).1 : Int), ((median (ltC (cfO o)) d x.toNat y.toNat z.toNat 0).2 : Int)]) OK false w h hr hN hm1 (by decide) (fun W hW => (HNum na ncap W hW).mono fun e w' ⟨u, v, h1, h2, h3⟩ => ⟨u, v, h1, fun e => ?_, h3⟩) (fun _ => leans_10) (fun e1 _ e2 e3 W hA hB => ?_) (fun e1 el => ?_)
  · obtain ⟨X, Y, Z, rfl, rfl, rfl, b0, b1, b2, g⟩ := hOK e
    have := h2 e X Y Z rfl rfl rfl
    try simp only [Int.toNat_natCast]
    exact this
  · obtain ⟨X, Y, Z, rfl, rfl, rfl, b0, b1, b2, g⟩ := hOK e1
    obtain ⟨z1, z2, z3⟩ := hsz e2
    try simp only [Int.toNat_natCast]
    exact inner_median t a cap d o na ncap X Y Z (by omega) (by omega) (by omega) W hA hB z1 z2 z3 e3
  · obtain ⟨X, Y, Z, rfl, rfl, rfl, b0, b1, b2, g⟩ := hOK e1
    try simp only [Int.toNat_natCast]
    exact ⟨by omega, by omega, permIn_refl d _ _⟩

theorem leans_11 (W : World) : Calls Tryz.prog 27 #[.int .i64 11] W fun e w' => e = .returned (.bool false) ∧ w' = W := by
  go_enter Tryz.func27, Tryz.ntmps27
  go_wp2
  go_ret
  exact ⟨rfl, rfl⟩

theorem uno_11 (t : Int) (a na : Option Addr) (cap ncap : Nat) (d : Array It) (o : Ordr) (x : Int) (w : World) (h : Arg w a cap d) (hr : inR d) (hN : RdN w na #[x]) (hm1 : d.size ≤ 2147483647) :
    Calls Tryz.prog 5 #[.int .i64 t, .int .i64 11, .slice a d.size cap, vOrd o, .slice na 1 ncap] w fun e w' => e = .returned (.bool true) ∧ Below w.heap.size w w' := by
  obtain ⟨OK, hOK, HNum⟩ := numok_11 d.size x
  have hsz : fitsB d.size o = true → d.size ≤ 2000 ∧ 0 ≤ o.shift ∧ o.shift < 64 := fun e => by
    unfold fitsB at e
    simp only [Bool.and_eq_true, decide_eq_true_eq] at e
    exact ⟨e.1.1.1.1, e.1.2, e.2⟩
  refine uno_calls t 11 a na cap 1 ncap (0) (0) d (d) o #[x] (#[((medianAdjacent (ltC (cfO o)) d x.toNat 0).1 : Int), ((medianAdjacent (ltC (cfO o)) d x.toNat 0).2 : Int)]) OK false w h hr hN hm1 (by decide) (fun W hW => (HNum na ncap W hW).mono fun e w' ⟨u, v, h1, h2, h3⟩ => ⟨u, v, h1, fun e => ?_, h3⟩) (fun _ => leans_11) (fun e1 _ e2 e3 W hA hB => ?_) (fun e1 el => ?_)
  · obtain ⟨X, rfl, b0, g⟩ := hOK e
    have := h2 e X rfl
    try simp only [Int.toNat_natCast]
    exact this
  · obtain ⟨X, rfl, b0, g⟩ := hOK e1
    obtain ⟨z1, z2, z3⟩ := hsz e2
    try simp only [Int.toNat_natCast]
    exact inner_medianAdjacent t a cap d o na ncap X (by omega) (by omega) W hA hB z1 z2 z3 e3
  · obtain ⟨X, rfl, b0, g⟩ := hOK e1
    try simp only [Int.toNat_natCast]
    exact ⟨by omega, by omega, permIn_refl d _ _⟩

theorem leans_12 (W : World) : Calls Tryz.prog 27 #[.int .i64 12] W fun e w' => e = .returned (.bool false) ∧ w' = W := by
  go_enter Tryz.func27, Tryz.ntmps27
  go_wp2
  go_ret
  exact ⟨rfl, rfl⟩

theorem uno_12 (t : Int) (a na : Option Addr) (cap ncap : Nat) (d : Array It) (o : Ordr) (x y : Int) (w : World) (h : Arg w a cap d) (hr : inR d) (hN : RdN w na #[x, y]) (hm1 : d.size ≤ 2147483647) :
    Calls Tryz.prog 5 #[.int .i64 t, .int .i64 12, .slice a d.size cap, vOrd o, .slice na 2 ncap] w fun e w' => e = .returned (.bool true) ∧ Below w.heap.size w w' := by
  obtain ⟨OK, hOK, HNum⟩ := numok_12 d.size x y
  have hsz : fitsB d.size o = true → d.size ≤ 2000 ∧ 0 ≤ o.shift ∧ o.shift < 64 := fun e => by
    unfold fitsB at e
    simp only [Bool.and_eq_true, decide_eq_true_eq] at e
    exact ⟨e.1.1.1.1, e.1.2, e.2⟩
  refine uno_calls t 12 a na cap 2 ncap (x.toNat) (y.toNat) d (reverseRange d x.toNat y.toNat) o #[x, y] (#[]) OK false w h hr hN hm1 (by decide) (fun W hW => (HNum na ncap W hW).mono fun e w' ⟨u, v, h1, h2, h3⟩ => ⟨u, v, h1, fun e => ?_, h3⟩) (fun _ => leans_12) (fun e1 _ e2 e3 W hA hB => ?_) (fun e1 el => ?_)
  · obtain ⟨X, Y, rfl, rfl, b0, b1, g⟩ := hOK e
    have := h2 e X Y rfl rfl
    try simp only [Int.toNat_natCast]
    exact this
  · obtain ⟨X, Y, rfl, rfl, b0, b1, g⟩ := hOK e1
    obtain ⟨z1, z2, z3⟩ := hsz e2
    try simp only [Int.toNat_natCast]
    exact inner_reverseRange t a cap d o na ncap X Y (by omega) (by omega) W hA hB z1 z2 z3 e3
  · obtain ⟨X, Y, rfl, rfl, b0, b1, g⟩ := hOK e1
    try simp only [Int.toNat_natCast]
    exact ⟨by omega, by omega, perm_reverseRange (ltC (cfO o)) d X Y (by omega) (by omega)⟩

theorem leans_13 (W : World) : Calls Tryz.prog 27 #[.int .i64 13] W fun e w' => e = .returned (.bool false) ∧ w' = W := by
  go_enter Tryz.func27, Tryz.ntmps27
  go_wp2
  go_ret
  exact ⟨rfl, rfl⟩

theorem uno_13 (t : Int) (a na : Option Addr) (cap ncap : Nat) (d : Array It) (o : Ordr) (x y z : Int) (w : World) (h : Arg w a cap d) (hr : inR d) (hN : RdN w na #[x, y, z]) (hm1 : d.size ≤ 2147483647) :
    Calls Tryz.prog 5 #[.int .i64 t, .int .i64 13, .slice a d.size cap, vOrd o, .slice na 3 ncap] w fun e w' => e = .returned (.bool true) ∧ Below w.heap.size w w' := by
  obtain ⟨OK, hOK, HNum⟩ := numok_13 d.size x y z
  have hsz : fitsB d.size o = true → d.size ≤ 2000 ∧ 0 ≤ o.shift ∧ o.shift < 64 := fun e => by
    unfold fitsB at e
    simp only [Bool.and_eq_true, decide_eq_true_eq] at e
    exact ⟨e.1.1.1.1, e.1.2, e.2⟩
  refine uno_calls t 13 a na cap 3 ncap (min x.toNat y.toNat) (max x.toNat y.toNat + z.toNat) d (swapRange d x.toNat y.toNat z.toNat) o #[x, y, z] (#[]) OK false w h hr hN hm1 (by decide) (fun W hW => (HNum na ncap W hW).mono fun e w' ⟨u, v, h1, h2, h3⟩ => ⟨u, v, h1, fun e => ?_, h3⟩) (fun _ => leans_13) (fun e1 _ e2 e3 W hA hB => ?_) (fun e1 el => ?_)
  · obtain ⟨X, Y, Z, rfl, rfl, rfl, b0, b1, b2, g⟩ := hOK e
    have := h2 e X Y Z rfl rfl rfl
    try simp only [Int.toNat_natCast]
    exact this
  · obtain ⟨X, Y, Z, rfl, rfl, rfl, b0, b1, b2, g⟩ := hOK e1
    obtain ⟨z1, z2, z3⟩ := hsz e2
    try simp only [Int.toNat_natCast]
    exact inner_swapRange t a cap d o na ncap X Y Z (by omega) (by omega) W hA hB z1 z2 z3 e3
  · obtain ⟨X, Y, Z, rfl, rfl, rfl, b0, b1, b2, g⟩ := hOK e1
    try simp only [Int.toNat_natCast]
    exact ⟨by omega, by omega, perm_swapRange (ltC (cfO o)) d X Y Z (by omega) (by omega)⟩

theorem leans_14 (W : World) : Calls Tryz.prog 27 #[.int .i64 14] W fun e w' => e = .returned (.bool false) ∧ w' = W := by
  go_enter Tryz.func27, Tryz.ntmps27
  go_wp2
  go_ret
  exact ⟨rfl, rfl⟩

theorem uno_14 (t : Int) (a na : Option Addr) (cap ncap : Nat) (d : Array It) (o : Ordr) (x : Int) (w : World) (h : Arg w a cap d) (hr : inR d) (hN : RdN w na #[x]) (hm1 : d.size ≤ 2147483647) :
    Calls Tryz.prog 5 #[.int .i64 t, .int .i64 14, .slice a d.size cap, vOrd o, .slice na 1 ncap] w fun e w' => e = .returned (.bool true) ∧ Below w.heap.size w w' := by
  obtain ⟨OK, hOK, HNum⟩ := numok_14 d.size x
  have hsz : fitsB d.size o = true → d.size ≤ 2000 ∧ 0 ≤ o.shift ∧ o.shift < 64 := fun e => by
    unfold fitsB at e
    simp only [Bool.and_eq_true, decide_eq_true_eq] at e
    exact ⟨e.1.1.1.1, e.1.2, e.2⟩
  refine uno_calls t 14 a na cap 1 ncap (0) (x.toNat) d (stable (ltC (cfO o)) d x.toNat) o #[x] (#[]) OK false w h hr hN hm1 (by decide) (fun W hW => (HNum na ncap W hW).mono fun e w' ⟨u, v, h1, h2, h3⟩ => ⟨u, v, h1, fun e => ?_, h3⟩) (fun _ => leans_14) (fun e1 _ e2 e3 W hA hB => ?_) (fun e1 el => ?_)
  · obtain ⟨X, rfl, b0, g⟩ := hOK e
    have := h2 e X rfl
    try simp only [Int.toNat_natCast]
    exact this
  · obtain ⟨X, rfl, b0, g⟩ := hOK e1
    obtain ⟨z1, z2, z3⟩ := hsz e2
    try simp only [Int.toNat_natCast]
    exact inner_stable t a cap d o na ncap X (by omega) W hA hB z1 z2 z3 e3
  · obtain ⟨X, rfl, b0, g⟩ := hOK e1
    try simp only [Int.toNat_natCast]
    exact ⟨by omega, by omega, perm_stable (ltC (cfO o)) d X (by omega)⟩

theorem leans_15 (W : World) : Calls Tryz.prog 27 #[.int .i64 15] W fun e w' => e = .returned (.bool false) ∧ w' = W := by
  go_enter Tryz.func27, Tryz.ntmps27
  go_wp2
  go_ret
  exact ⟨rfl, rfl⟩

theorem uno_15 (t : Int) (a na : Option Addr) (cap ncap : Nat) (d : Array It) (o : Ordr) (x y z : Int) (w : World) (h : Arg w a cap d) (hr : inR d) (hN : RdN w na #[x, y, z]) (hm1 : d.size ≤ 2147483647) :
    Calls Tryz.prog 5 #[.int .i64 t, .int .i64 15, .slice a d.size cap, vOrd o, .slice na 3 ncap] w fun e w' => e = .returned (.bool true) ∧ Below w.heap.size w w' := by
  obtain ⟨OK, hOK, HNum⟩ := numok_15 d.size x y z
  have hsz : fitsB d.size o = true → d.size ≤ 2000 ∧ 0 ≤ o.shift ∧ o.shift < 64 := fun e => by
    unfold fitsB at e
    simp only [Bool.and_eq_true, decide_eq_true_eq] at e
    exact ⟨e.1.1.1.1, e.1.2, e.2⟩
  refine uno_calls t 15 a na cap 3 ncap (x.toNat) (z.toNat) d (symMerge (ltC (cfO o)) d x.toNat y.toNat z.toNat) o #[x, y, z] (#[]) OK false w h hr hN hm1 (by decide) (fun W hW => (HNum na ncap W hW).mono fun e w' ⟨u, v, h1, h2, h3⟩ => ⟨u, v, h1, fun e => ?_, h3⟩) (fun _ => leans_15) (fun e1 _ e2 e3 W hA hB => ?_) (fun e1 el => ?_)
  · obtain ⟨X, Y, Z, rfl, rfl, rfl, b0, b1, b2, g⟩ := hOK e
    have := h2 e X Y Z rfl rfl rfl
    try simp only [Int.toNat_natCast]
    exact this
  · obtain ⟨X, Y, Z, rfl, rfl, rfl, b0, b1, b2, g⟩ := hOK e1
    obtain ⟨z1, z2, z3⟩ := hsz e2
    try simp only [Int.toNat_natCast]
    exact inner_symMerge t a cap d o na ncap X Y Z (by omega) (by omega) (by omega) W hA hB z1 z2 z3 e3
  · obtain ⟨X, Y, Z, rfl, rfl, rfl, b0, b1, b2, g⟩ := hOK e1
    try simp only [Int.toNat_natCast]
    exact ⟨by omega, by omega, perm_symMerge (ltC (cfO o)) d X Y Z (by omega) (by omega) (by omega)⟩

theorem leans_16 (W : World) : Calls Tryz.prog 27 #[.int .i64 16] W fun e w' => e = .returned (.bool false) ∧ w' = W := by
  go_enter Tryz.func27, Tryz.ntmps27
  go_wp2
  go_ret
  exact ⟨rfl, rfl⟩

theorem uno_16 (t : Int) (a na : Option Addr) (cap ncap : Nat) (d : Array It) (o : Ordr) (x y z : Int) (w : World) (h : Arg w a cap d) (hr : inR d) (hN : RdN w na #[x, y, z]) (hm1 : d.size ≤ 2147483647) :
    Calls Tryz.prog 5 #[.int .i64 t, .int .i64 16, .slice a d.size cap, vOrd o, .slice na 3 ncap] w fun e w' => e = .returned (.bool true) ∧ Below w.heap.size w w' := by
  obtain ⟨OK, hOK, HNum⟩ := numok_16 d.size x y z
  have hsz : fitsB d.size o = true → d.size ≤ 2000 ∧ 0 ≤ o.shift ∧ o.shift < 64 := fun e => by
    unfold fitsB at e
    simp only [Bool.and_eq_true, decide_eq_true_eq] at e
    exact ⟨e.1.1.1.1, e.1.2, e.2⟩
  refine uno_calls t 16 a na cap 3 ncap (x.toNat) (z.toNat) d (rotate d x.toNat y.toNat z.toNat) o #[x, y, z] (#[]) OK false w h hr hN hm1 (by decide) (fun W hW => (HNum na ncap W hW).mono fun e w' ⟨u, v, h1, h2, h3⟩ => ⟨u, v, h1, fun e => ?_, h3⟩) (fun _ => leans_16) (fun e1 _ e2 e3 W hA hB => ?_) (fun e1 el => ?_)
  · obtain ⟨X, Y, Z, rfl, rfl, rfl, b0, b1, b2, g⟩ := hOK e
    have := h2 e X Y Z rfl rfl rfl
    try simp only [Int.toNat_natCast]
    exact this
  · obtain ⟨X, Y, Z, rfl, rfl, rfl, b0, b1, b2, g⟩ := hOK e1
    obtain ⟨z1, z2, z3⟩ := hsz e2
    try simp only [Int.toNat_natCast]
    exact inner_rotate t a cap d o na ncap X Y Z (by omega) (by omega) (by omega) W hA hB z1 z2 z3 e3
  · obtain ⟨X, Y, Z, rfl, rfl, rfl, b0, b1, b2, g⟩ := hOK e1
    try simp only [Int.toNat_natCast]
    exact ⟨by omega, by omega, perm_rotate (ltC (cfO o)) d X Y Z (by omega) (by omega) (by omega)⟩

end Go.Proofs.YtglgmkikegbchaaGreat

/- FnUnordered. -/
namespace Go.Proofs.YtglgmkikegbchaaGreat
open Go.ChangeShapes Go.WideShapes Go.ChangeAt Go.RowKit Go.Deep Go.Sort

theorem uno_bad (t f : Int) (a na : Option Addr) (cap ncap : Nat) (d : Array It) (o : Ordr) (ns : Array Int) (w : World) (h : Arg w a cap d) (hr : inR d) (hN : RdN w na ns) (hf : (Lit.int .i64 f).wf = true) (hm1 : d.size ≤ 2147483647) (hm2 : ns.size ≤ 2147483647) (hbad : f < 0 ∨ 17 ≤ f ∨ (ns.size : Int) ≠ wantF f) :
    Calls Tryz.prog 5 #[.int .i64 t, .int .i64 f, .slice a d.size cap, vOrd o, .slice na ns.size ncap] w fun e w' => e = .returned (.bool true) ∧ Below w.heap.size w w' :=
  uno_calls t f a na cap ns.size ncap 0 0 d d o ns #[] false false w h hr hN hm1 hm2 (fun W hW => (numbers_bad f d.size na ncap ns.size ns W hW rfl hf (by omega) (hbad.elim Or.inl fun h => h.elim (fun h => Or.inr (Or.inl h)) fun h => Or.inr (Or.inr (Or.inl h)))).mono fun e w' ⟨h1, h2⟩ => ⟨_, _, h1, fun e => (by cases e), h2⟩) (fun e => by cases e) (fun e => by cases e) (fun e => by cases e)

set_option maxHeartbeats 4000000 in
set_option maxRecDepth 1000000 in
theorem fnUnordered_walk (t f : Int) (a na : Option Addr) (cap ncap : Nat) (d : Array It) (o : Ordr) (ns : Array Int) (w : World) (h : Arg w a cap d) (hr : inR d) (hN : RdN w na ns) (hf : (Lit.int .i64 f).wf = true) :
    Calls Tryz.prog 5 #[.int .i64 t, .int .i64 f, .slice a d.size cap, vOrd o, .slice na ns.size ncap] w fun e w' => e = .returned (.bool true) ∧ Below w.heap.size w w' := by
  by_cases hbig : 2147483647 < d.size ∨ 2147483647 < ns.size
  · obtain ⟨n, hn⟩ : ∃ n, n = d.size := ⟨_, rfl⟩
    obtain ⟨m, hm⟩ : ∃ m, m = ns.size := ⟨_, rfl⟩
    rw [← hn, ← hm] at hbig ⊢
    obtain ⟨k, s, m0, m1, m2⟩ := o
    have B0 : Aside (Below w.heap.size w (w.alloc (.cells #[.int .i64 k, .int .i64 s, .int .u64 m0, .int .u64 m1, .int .u64 m2] 26))) := below_alloc _ _
    clear hn hm
    by_cases h1 : 2147483647 < n
    · have h1z : (2147483647 : Int) < (n : Int) := by omega
      go_enter Tryz.func5, Tryz.ntmps5
      go_wp2_with fail
      go_ret
      exact ⟨rfl, B0.out⟩
    · have h1z : ¬ (2147483647 : Int) < (n : Int) := by omega
      have h2z : (2147483647 : Int) < (m : Int) := by omega
      go_enter Tryz.func5, Tryz.ntmps5
      go_wp2_with fail
      go_ret
      exact ⟨rfl, B0.out⟩
  · have hm1 : d.size ≤ 2147483647 := by omega
    have hm2 : ns.size ≤ 2147483647 := by omega
    clear hbig
    by_cases hv : f < 0 ∨ 17 ≤ f
    · exact uno_bad t _ a na cap ncap d o ns w h hr hN hf hm1 hm2 (hv.elim Or.inl fun h => Or.inr (Or.inl h))
    · rcases (show f = 0 ∨ f = 1 ∨ f = 2 ∨ f = 3 ∨ f = 4 ∨ f = 5 ∨ f = 6 ∨ f = 7 ∨ f = 8 ∨ f = 9 ∨ f = 10 ∨ f = 11 ∨ f = 12 ∨ f = 13 ∨ f = 14 ∨ f = 15 ∨ f = 16 by omega) with rfl | rfl | rfl | rfl | rfl | rfl | rfl | rfl | rfl | rfl | rfl | rfl | rfl | rfl | rfl | rfl | rfl
      · by_cases hs : ns.size = 2
        · obtain ⟨x, y, rfl⟩ := arr2 hs
          exact uno_0 t a na cap ncap d o x y w h hr hN hm1
        · exact uno_bad t _ a na cap ncap d o ns w h hr hN hf hm1 hm2 (Or.inr (Or.inr (by rw [show wantF 0 = 2 from by kernel_rfl]; omega)))
      · by_cases hs : ns.size = 3
        · obtain ⟨x, y, z, rfl⟩ := arr3 hs
          exact uno_1 t a na cap ncap d o x y z w h hr hN hm1
        · exact uno_bad t _ a na cap ncap d o ns w h hr hN hf hm1 hm2 (Or.inr (Or.inr (by rw [show wantF 1 = 3 from by kernel_rfl]; omega)))
      · by_cases hs : ns.size = 2
        · obtain ⟨x, y, rfl⟩ := arr2 hs
          exact uno_2 t a na cap ncap d o x y w h hr hN hm1
        · exact uno_bad t _ a na cap ncap d o ns w h hr hN hf hm1 hm2 (Or.inr (Or.inr (by rw [show wantF 2 = 2 from by kernel_rfl]; omega)))
      · by_cases hs : ns.size = 3
        · obtain ⟨x, y, z, rfl⟩ := arr3 hs
          exact uno_3 t a na cap ncap d o x y z w h hr hN hm1
        · exact uno_bad t _ a na cap ncap d o ns w h hr hN hf hm1 hm2 (Or.inr (Or.inr (by rw [show wantF 3 = 3 from by kernel_rfl]; omega)))
      · by_cases hs : ns.size = 3
        · obtain ⟨x, y, z, rfl⟩ := arr3 hs
          exact uno_4 t a na cap ncap d o x y z w h hr hN hm1
        · exact uno_bad t _ a na cap ncap d o ns w h hr hN hf hm1 hm2 (Or.inr (Or.inr (by rw [show wantF 4 = 3 from by kernel_rfl]; omega)))
      · by_cases hs : ns.size = 3
        · obtain ⟨x, y, z, rfl⟩ := arr3 hs
          exact uno_5 t a na cap ncap d o x y z w h hr hN hm1
        · exact uno_bad t _ a na cap ncap d o ns w h hr hN hf hm1 hm2 (Or.inr (Or.inr (by rw [show wantF 5 = 3 from by kernel_rfl]; omega)))
      · by_cases hs : ns.size = 2
        · obtain ⟨x, y, rfl⟩ := arr2 hs
          exact uno_6 t a na cap ncap d o x y w h hr hN hm1
        · exact uno_bad t _ a na cap ncap d o ns w h hr hN hf hm1 hm2 (Or.inr (Or.inr (by rw [show wantF 6 = 2 from by kernel_rfl]; omega)))
      · by_cases hs : ns.size = 2
        · obtain ⟨x, y, rfl⟩ := arr2 hs
          exact uno_7 t a na cap ncap d o x y w h hr hN hm1
        · exact uno_bad t _ a na cap ncap d o ns w h hr hN hf hm1 hm2 (Or.inr (Or.inr (by rw [show wantF 7 = 2 from by kernel_rfl]; omega)))
      · by_cases hs : ns.size = 2
        · obtain ⟨x, y, rfl⟩ := arr2 hs
          exact uno_8 t a na cap ncap d o x y w h hr hN hm1
        · exact uno_bad t _ a na cap ncap d o ns w h hr hN hf hm1 hm2 (Or.inr (Or.inr (by rw [show wantF 8 = 2 from by kernel_rfl]; omega)))
      · by_cases hs : ns.size = 2
        · obtain ⟨x, y, rfl⟩ := arr2 hs
          exact uno_9 t a na cap ncap d o x y w h hr hN hm1
        · exact uno_bad t _ a na cap ncap d o ns w h hr hN hf hm1 hm2 (Or.inr (Or.inr (by rw [show wantF 9 = 2 from by kernel_rfl]; omega)))
      · by_cases hs : ns.size = 3
        · obtain ⟨x, y, z, rfl⟩ := arr3 hs
          exact uno_10 t a na cap ncap d o x y z w h hr hN hm1
        · exact uno_bad t _ a na cap ncap d o ns w h hr hN hf hm1 hm2 (Or.inr (Or.inr (by rw [show wantF 10 = 3 from by kernel_rfl]; omega)))
      · by_cases hs : ns.size = 1
        · obtain ⟨x, rfl⟩ := arr1 hs
          exact uno_11 t a na cap ncap d o x w h hr hN hm1
        · exact uno_bad t _ a na cap ncap d o ns w h hr hN hf hm1 hm2 (Or.inr (Or.inr (by rw [show wantF 11 = 1 from by kernel_rfl]; omega)))
      · by_cases hs : ns.size = 2
        · obtain ⟨x, y, rfl⟩ := arr2 hs
          exact uno_12 t a na cap ncap d o x y w h hr hN hm1
        · exact uno_bad t _ a na cap ncap d o ns w h hr hN hf hm1 hm2 (Or.inr (Or.inr (by rw [show wantF 12 = 2 from by kernel_rfl]; omega)))
      · by_cases hs : ns.size = 3
        · obtain ⟨x, y, z, rfl⟩ := arr3 hs
          exact uno_13 t a na cap ncap d o x y z w h hr hN hm1
        · exact uno_bad t _ a na cap ncap d o ns w h hr hN hf hm1 hm2 (Or.inr (Or.inr (by rw [show wantF 13 = 3 from by kernel_rfl]; omega)))
      · by_cases hs : ns.size = 1
        · obtain ⟨x, rfl⟩ := arr1 hs
          exact uno_14 t a na cap ncap d o x w h hr hN hm1
        · exact uno_bad t _ a na cap ncap d o ns w h hr hN hf hm1 hm2 (Or.inr (Or.inr (by rw [show wantF 14 = 1 from by kernel_rfl]; omega)))
      · by_cases hs : ns.size = 3
        · obtain ⟨x, y, z, rfl⟩ := arr3 hs
          exact uno_15 t a na cap ncap d o x y z w h hr hN hm1
        · exact uno_bad t _ a na cap ncap d o ns w h hr hN hf hm1 hm2 (Or.inr (Or.inr (by rw [show wantF 15 = 3 from by kernel_rfl]; omega)))
      · by_cases hs : ns.size = 3
        · obtain ⟨x, y, z, rfl⟩ := arr3 hs
          exact uno_16 t a na cap ncap d o x y z w h hr hN hm1
        · exact uno_bad t _ a na cap ncap d o ns w h hr hN hf hm1 hm2 (Or.inr (Or.inr (by rw [show wantF 16 = 3 from by kernel_rfl]; omega)))

set_option maxRecDepth 100000 in
theorem fnUnordered_lifted (os : Os) (started : os.Started) (H : Type) (enc : TypeId × Value → H) :
    ReturnsInHanded {} Tryz.checked os 5 .any (Rows.fnUnorderedSpec.pre6 enc Tryz.prog Tryz.f5 Rows.fnUnorderedRow.domain false) (Rows.fnUnorderedSpec.post enc Tryz.prog Tryz.f5 false true false false) := by
  refine returnsInHanded_of_change (C := Tryz.checked) own started (by kernel_rfl) Tryz.func5
    (ChangeSpec.witness6 (enc := enc) (C := Tryz.checked) false ⟨#[], #[.int .i64 0, .int .i64 0, .slice none 0 0, .agg #[.int .i64 0, .int .i64 0, .int .u64 0, .int .u64 0, .int .u64 0], .slice none 0 0], []⟩ 8 (by kernel_rfl) (by kernel_rfl) (by kernel_rfl) (by kernel_rfl)) ?_
  intro W base args ds gs before hval0 hW _ _
  have hval : ∀ (j : Nat) t v, Tryz.f5.params[j]? = some t → args[j]? = some v → Value.okWide Tryz.prog W .any base t v := hval0
  have hW' := hW
  obtain ⟨p, q, hA0, hV, rfl, _, _⟩ := hW
  have hA : DataW.TrodAll enc Tryz.prog W 0 (fun _ => true) true Tryz.f5.params.toList args.toList ds p := hA0
  rw [Tryz.params5] at hA hval
  obtain ⟨v0, vs0, d0, ds0, p0, q0, hargs, rfl, rfl, h0, r0⟩ := trodAll_cons hA
  obtain ⟨v1, vs1, d1, ds1, p1, q1, rfl, rfl, rfl, h1, r1⟩ := trodAll_cons r0
  obtain ⟨v2, vs2, d2, ds2, p2, q2, rfl, rfl, rfl, h2, r2⟩ := trodAll_cons r1
  obtain ⟨v3, vs3, d3, ds3, p3, q3, rfl, rfl, rfl, h3, r3⟩ := trodAll_cons r2
  obtain ⟨v4, vs4, d4, ds4, p4, q4, rfl, rfl, rfl, h4, r4⟩ := trodAll_cons r3
  obtain ⟨rfl, rfl, rfl⟩ := trodAll_nil r4
  obtain rfl : args = #[v0, v1, v2, v3, v4] := by cases args; simp_all
  obtain ⟨t, rfl, _, _⟩ := open_i64 Tryz.underlying3 (hval 0 3 v0 rfl rfl)
  obtain ⟨f, rfl, f_lo, f_hi⟩ := open_i64 Tryz.underlying3 (hval 1 3 v1 rfl rfl)
  obtain ⟨a, len, cap, rfl⟩ := okWide_slice Tryz.underlying22 (hval 2 22 v2 rfl rfl)
  obtain ⟨o, rfl, _⟩ := open_order (hval 3 26 v3 rfl rfl)
  obtain ⟨na, nlen, ncap, rfl⟩ := okWide_slice Tryz.underlying29 (hval 4 29 v4 rfl rfl)
  obtain ⟨fuel, hf⟩ := h2
  obtain ⟨d, rfl, hArg, hIn⟩ := open_arg hf
  obtain ⟨fuel2, hf2⟩ := h4
  obtain ⟨ns, rfl, hNs⟩ := open_nums hf2
  refine (fnUnordered_walk t f a na cap ncap d o ns W hArg hIn hNs (WalkArith.wf_i64 ⟨f_lo, f_hi⟩)).mono fun e W' ⟨he, hB⟩ => ?_
  subst he
  exact ⟨_, rfl, post_true hW' rfl (by rw [Tryz.params5]; decide) rfl rfl hB⟩

theorem fnUnordered_over : Rows.fnUnorderedRow.holds Tryz.pinned (OpenSpec.ofChange Rows.fnUnorderedSpec) :=
  OpenClaim.holds_of_wide 5 Tryz.f5 rfl rfl rfl rfl rfl rfl rfl ⟨rfl, rfl, rfl, rfl, rfl⟩ rfl rfl rfl rfl rfl (by kernel_rfl) Tryz.func5 (by kernel_rfl)
    (of_decide_eq_true (by kernel_rfl)) (by unfold Func.isWrapper; first | (rw [if_pos (by decide +kernel)]; kernel_rfl) | (rw [if_neg (by decide +kernel)]; exact ⟨rfl, rfl⟩))
    (fun os started H enc _ => fnUnordered_lifted os started H enc)

theorem fnUnordered_proved : Rows.FnUnorderedSaid := fnUnordered_over
end Go.Proofs.YtglgmkikegbchaaGreat
