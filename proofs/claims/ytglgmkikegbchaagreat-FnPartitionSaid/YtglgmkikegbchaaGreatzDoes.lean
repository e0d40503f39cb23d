/- laws.does. -/
import Derived.Test.YtglgmkikegbchaaGreatzNum
import Derived.Test.YtglgmkikegbchaaGreatzInnerC
import Derived.Test.YtglgmkikegbchaaGreatWorks
namespace Go.Proofs.YtglgmkikegbchaaGreat
open Go.RowKit Go.Sort

/-- An order's box, its cells laid for the walk. -/
def BoxK (w : World) (b : Nat) (k s m0 m1 m2 : Int) : Prop := b < w.heap.size ∧ w.cell? ⟨b, 0, none⟩ = some (.int .i64 k) ∧ w.cell? ⟨b, 1, none⟩ = some (.int .i64 s) ∧ w.cell? ⟨b, 2, none⟩ = some (.int .u64 m0) ∧ w.cell? ⟨b, 3, none⟩ = some (.int .u64 m1) ∧ w.cell? ⟨b, 4, none⟩ = some (.int .u64 m2)
theorem BoxK.keep {w w' : World} {b : Nat} {k s m0 m1 m2 : Int} (h : BoxK w b k s m0 m1 m2) (hb : Below w.heap.size w w') : BoxK w' b k s m0 m1 m2 := by
  obtain ⟨h0, k0, k1, k2, k3, k4⟩ := h
  exact ⟨Nat.lt_of_lt_of_le h0 hb.size, (hb.cell (by exact h0)).trans k0, (hb.cell (by exact h0)).trans k1, (hb.cell (by exact h0)).trans k2, (hb.cell (by exact h0)).trans k3, (hb.cell (by exact h0)).trans k4⟩
theorem boxK_new (w : World) (k s m0 m1 m2 : Int) (t : TypeId) : BoxK (w.alloc (.cells #[.int .i64 k, .int .i64 s, .int .u64 m0, .int .u64 m1, .int .u64 m2] t)) w.heap.size k s m0 m1 m2 := ⟨by simp, by simp [go_sem], by simp [go_sem], by simp [go_sem], by simp [go_sem], by simp [go_sem]⟩

set_option maxHeartbeats 4000000 in
set_option maxRecDepth 1000000 in
theorem does_calls (t f : Int) (a na : Option Addr) (cap n ncap : Nat) (d d' : Array It) (o : Ordr) (ns nums : Array Int) (OK RDY : Bool) (w : World) (h : Rd2 w a d) (hN : RdN w na ns)
    (HN : ∀ W, RdN W na ns → Calls Tryz.prog 26 #[.int .i64 f, .int .i64 d.size, .slice na n ncap] W fun e w' => ∃ x y, e = .returned (.tuple #[x, y, .bool OK]) ∧ Below W.heap.size W w')
    (HR : OK = true → fitsB d.size o = true → textB t d o = true → ∀ W, Rd2 W a d → RdN W na ns → Calls Tryz.prog 34 #[.int .i64 f, .slice a d.size cap, vOrd o, .slice na n ncap] W fun e w' => e = .returned (.bool RDY) ∧ Below W.heap.size W w')
    (HI : OK = true → RDY = true → fitsB d.size o = true → o.kind ≠ 3 → textB t d o = true → ∀ W, Rd2 W a d → RdN W na ns → Calls Tryz.prog 28 #[.int .i64 t, .int .i64 f, .slice a d.size cap, vOrd o, .slice na n ncap] W (InnerTo W d' nums))
    (HD : OK = true → RDY = true → fitsB d.size o = true → o.kind ≠ 3 → textB t d o = true → ∀ W b bcap ra rcap, Rd2 W a d → RdN W na ns → b < W.heap.size → d'.size ≤ bcap → Holds2 W b 0 d' → RdN W ra nums → Calls Tryz.prog 35 #[.int .i64 f, .slice a d.size cap, vOrd o, .slice na n ncap, .slice (some ⟨b, 0, none⟩) d'.size bcap, .slice ra nums.size rcap] W fun e w' => e = .returned (.bool true) ∧ Below W.heap.size W w') :
    Calls Tryz.prog 22 #[.int .i64 t, .int .i64 f, .slice a d.size cap, vOrd o, .slice na n ncap] w fun e w' => e = .returned (.bool true) ∧ Below w.heap.size w w' := by
  obtain ⟨k, s, m0, m1, m2⟩ := o
  obtain ⟨F, hF⟩ : ∃ F, F = fitsB d.size ⟨k, s, m0, m1, m2⟩ := ⟨_, rfl⟩
  obtain ⟨I, hI⟩ : ∃ I, I = (k != 3) := ⟨_, rfl⟩
  obtain ⟨T, hT⟩ : ∃ T, T = textB t d ⟨k, s, m0, m1, m2⟩ := ⟨_, rfl⟩
  have fits := fun W => fits_calls a cap d.size ⟨k, s, m0, m1, m2⟩ W
  have isC := fun W => is_calls ⟨k, s, m0, m1, m2⟩ W
  have text := fun W h hz => text_calls t a cap d.size d ⟨k, s, m0, m1, m2⟩ W h rfl hz
  dsimp only at isC
  rw [← hF] at fits HR HI HD
  rw [← hI] at isC
  rw [← hT] at text HR HI HD
  have hz : F = true → d.size ≤ 2000 := fun e => by
    rw [e] at hF
    unfold fitsB at hF
    simp only [Bool.true_eq, Bool.and_eq_true, decide_eq_true_eq] at hF
    exact hF.1.1.1.1
  have h3 : I = true → k ≠ 3 := fun e => by
    rw [e] at hI
    simpa using hI.symm
  have B0 : Aside (Below w.heap.size w (w.alloc (.cells #[.int .i64 k, .int .i64 s, .int .u64 m0, .int .u64 m1, .int .u64 m2] 26))) := below_alloc _ _
  have K0 : Aside (BoxK (w.alloc (.cells #[.int .i64 k, .int .i64 s, .int .u64 m0, .int .u64 m1, .int .u64 m2] 26)) w.heap.size k s m0 m1 m2) := boxK_new _ _ _ _ _ _ _
  have R0 : Aside (Rd2 w a d ∧ RdN w na ns) := ⟨h, hN⟩
  have QR : Aside _ := HR
  have QI : Aside _ := HI
  have QD : Aside _ := HD
  have Qz : Aside _ := hz
  have Q3 : Aside _ := h3
  clear h hN hF hI hT HR HI HD hz h3
  go_enter Tryz.func22, Tryz.ntmps22
  go_wp2_with fail
  refine (fits _).mono ?_
  rintro e w1 ⟨rfl, hb⟩
  have B1 : Aside (Below w.heap.size w w1) := Below.next B0.out hb
  have K1 : Aside (BoxK w1 w.heap.size k s m0 m1 m2) := K0.out.keep hb
  clear hb K0 B0 fits
  cases F with
  | false =>
    go_wp2_with fail
    refine (works_calls _).mono ?_
    rintro e w2 ⟨rfl, hb⟩
    go_wp2_with fail
    go_ret
    exact ⟨rfl, Below.next B1.out hb⟩
  | true =>
    obtain ⟨_, k0, k1, k2, k3, k4⟩ := K1.out
    go_wp2_with fail
    refine (isC _).mono ?_
    rintro e w2 ⟨rfl, hb⟩
    have B2 : Aside (Below w.heap.size w w2) := Below.next B1.out hb
    have K2 : Aside (BoxK w2 w.heap.size k s m0 m1 m2) := K1.out.keep hb
    clear hb K1 B1 isC k0 k1 k2 k3 k4
    cases I with
    | false =>
      go_wp2_with fail
      refine (works_calls _).mono ?_
      rintro e w2 ⟨rfl, hb⟩
      go_wp2_with fail
      go_ret
      exact ⟨rfl, Below.next B2.out hb⟩
    | true =>
      obtain ⟨_, k0, k1, k2, k3, k4⟩ := K2.out
      have hx := text w2 (R0.out.1.keep B2.out) (Qz.out (by trivial))
      go_wp2_with fail
      refine hx.mono ?_
      rintro e w3 ⟨rfl, hb⟩
      have B3 : Aside (Below w.heap.size w w3) := Below.next B2.out hb
      have K3 : Aside (BoxK w3 w.heap.size k s m0 m1 m2) := K2.out.keep hb
      clear hb K2 B2 text hx k0 k1 k2 k3 k4
      cases T with
      | false =>
        go_wp2_with fail
        refine (works_calls _).mono ?_
        rintro e w2 ⟨rfl, hb⟩
        go_wp2_with fail
        go_ret
        exact ⟨rfl, Below.next B3.out hb⟩
      | true =>
        have hx := HN w3 (R0.out.2.keep B3.out)
        go_wp2_with fail
        refine hx.mono ?_
        rintro e w4 ⟨x, y, rfl, hb⟩
        have B4 : Aside (Below w.heap.size w w4) := Below.next B3.out hb
        have K4 : Aside (BoxK w4 w.heap.size k s m0 m1 m2) := K3.out.keep hb
        clear hb K3 B3 HN hx
        cases OK with
        | false =>
          go_wp2_with fail
          refine (works_calls _).mono ?_
          rintro e w2 ⟨rfl, hb⟩
          go_wp2_with fail
          go_ret
          exact ⟨rfl, Below.next B4.out hb⟩
        | true =>
          obtain ⟨_, k0, k1, k2, k3, k4⟩ := K4.out
          have hx := QR.out (by trivial) (by trivial) (by trivial) w4 (R0.out.1.keep B4.out) (R0.out.2.keep B4.out)
          go_wp2_with fail
          refine hx.mono ?_
          rintro e w5 ⟨rfl, hb⟩
          have B5 : Aside (Below w.heap.size w w5) := Below.next B4.out hb
          have K5 : Aside (BoxK w5 w.heap.size k s m0 m1 m2) := K4.out.keep hb
          clear hb K4 B4 QR hx k0 k1 k2 k3 k4
          cases RDY with
          | false =>
            go_wp2_with fail
            refine (works_calls _).mono ?_
            rintro e w2 ⟨rfl, hb⟩
            go_wp2_with fail
            go_ret
            exact ⟨rfl, Below.next B5.out hb⟩
          | true =>
            obtain ⟨_, k0, k1, k2, k3, k4⟩ := K5.out
            have hx := QI.out (by trivial) (by trivial) (by trivial) (Q3.out (by trivial)) (by trivial) w5 (R0.out.1.keep B5.out) (R0.out.2.keep B5.out)
            go_wp2_with fail
            refine hx.mono ?_
            rintro e w6 ⟨b, bcap, ra, rcap, rfl, hb1, hb2, hb3, hb4, hb5, hb⟩
            have B6 : Aside (Below w.heap.size w w6) := Below.next B5.out hb
            obtain ⟨_, k0, k1, k2, k3, k4⟩ := K5.out.keep hb
            have hx := QD.out (by trivial) (by trivial) (by trivial) (Q3.out (by trivial)) (by trivial) w6 b bcap ra rcap (R0.out.1.keep B6.out) (R0.out.2.keep B6.out) hb2 hb3 hb4 hb5
            clear hb K5 B5 QI QD hb1 hb2 hb3 hb4 hb5
            go_wp2_with fail
            refine hx.mono ?_
            rintro e w7 ⟨rfl, hb⟩
            have B7 : Aside (Below w.heap.size w w7) := Below.next B6.out hb
            clear hb hx k0 k1 k2 k3 k4 B6
            go_wp2_with fail
            refine (works_calls _).mono ?_
            rintro e w8 ⟨rfl, hb⟩
            go_wp2_with fail
            go_ret
            exact ⟨rfl, Below.next B7.out hb⟩
end Go.Proofs.YtglgmkikegbchaaGreat
