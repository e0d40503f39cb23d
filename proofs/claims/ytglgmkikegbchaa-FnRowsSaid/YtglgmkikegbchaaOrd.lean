/- Orders: what (Order).compared says of two elements. -/
import Derived.Test.YtglgmkikegbchaaWc0
namespace Go.Proofs.Ytglgmkikegbchaa
open Go.RowKit Go.Sort

/-- An order, as data. -/
structure Ordr where
  kind : Int
  shift : Int
  m0 : Int
  m1 : Int
  m2 : Int

abbrev vOrd (o : Ordr) : Value := .agg #[.int .i64 o.kind, .int .i64 o.shift, .int .u64 o.m0, .int .u64 o.m1, .int .u64 o.m2]

/-- -1, 0 or 1: of two numbers. -/
def sg (a b : Int) : Int := if a < b then -1 else if b < a then 1 else 0

theorem of_calls (a b : Int) (w : World) : Calls Try.prog 78 #[.int .i64 a, .int .i64 b] w fun e w' => e = .returned (.int .i64 (sg a b)) ∧ w' = w := by
  unfold sg
  by_cases h : a < b
  · rw [if_pos h]
    go_enter Try.func78, Try.ntmps78
    go_wp2
    go_ret
    exact ⟨rfl, rfl⟩
  · rw [if_neg h]
    by_cases h2 : b < a
    · rw [if_pos h2]
      go_enter Try.func78, Try.ntmps78
      go_wp2
      go_ret
      exact ⟨rfl, rfl⟩
    · rw [if_neg h2]
      go_enter Try.func78, Try.ntmps78
      go_wp2
      go_ret
      exact ⟨rfl, rfl⟩

theorem grow3 (W : World) (a b c : Obj) (n : Nat) : (((W.alloc a).alloc b).alloc c).drewN n = grow (W.drewN n) #[a, b, c] := by
  rw [alloc_eq_grow, alloc_eq_grow, alloc_eq_grow, grow_grow, grow_grow]
  rfl
theorem grow3' (W : World) (a b c : Obj) : ∃ q os, ((W.alloc a).alloc b).alloc c = grow (W.drewN q) os := ⟨0, _, grow3 W a b c 0⟩

/-- What comes of comparing where there is no order. -/
def wildC (m0 m1 m2 x y : Int) : Int :=
  wrap64 (wrap64 ((IntKind.u64.wrap (IntKind.u64.wrap (IntKind.u64.wrap (IntKind.u64.wrap x * m0) + IntKind.u64.wrap (IntKind.u64.wrap y * m1)) + m2) / 8589934592).tmod 3) - 1)

/-- How two elements are compared in an order. -/
def cfO (o : Ordr) (x y : It) : Int :=
  if o.kind = 1 then sg y.1 x.1 else if o.kind = 2 then sg (x.1 / 2 ^ o.shift.toNat) (y.1 / 2 ^ o.shift.toNat) else if o.kind = 3 then wildC o.m0 o.m1 o.m2 x.1 y.1 else sg x.1 y.1

set_option maxHeartbeats 1000000 in
theorem cmp_up (o : Ordr) (hk1 : o.kind ≠ 1) (hk2 : o.kind ≠ 2) (hk3 : o.kind ≠ 3) (x y : It) (W : World) : Calls Try.prog 36 #[vOrd o, vIt x, vIt y] W fun e w' => e = .returned (.int .i64 (sg x.1 y.1)) ∧ ∃ q os, w' = grow (W.drewN q) os := by
  obtain ⟨k, s, m0, m1, m2⟩ := o
  obtain ⟨x1, x2⟩ := x
  obtain ⟨y1, y2⟩ := y
  dsimp only at hk1 hk2 hk3
  have a1 : (k == 1) = false := by simpa using hk1
  have a2 : (k == 2) = false := by simpa using hk2
  have a3 : (k == 3) = false := by simpa using hk3
  clear hk1 hk2 hk3
  go_enter Try.func36, Try.ntmps36
  go_wp2_with fail
  refine (of_calls x1 y1 _).mono ?_
  rintro e w' ⟨rfl, rfl⟩
  go_wp2_with fail
  go_ret
  exact ⟨rfl, grow3' _ _ _ _⟩

set_option maxHeartbeats 1000000 in
theorem cmp_down (o : Ordr) (hk1 : o.kind = 1) (x y : It) (W : World) : Calls Try.prog 36 #[vOrd o, vIt x, vIt y] W fun e w' => e = .returned (.int .i64 (sg y.1 x.1)) ∧ ∃ q os, w' = grow (W.drewN q) os := by
  obtain ⟨k, s, m0, m1, m2⟩ := o
  obtain ⟨x1, x2⟩ := x
  obtain ⟨y1, y2⟩ := y
  dsimp only at hk1
  subst hk1
  go_enter Try.func36, Try.ntmps36
  go_wp2_with fail
  refine (of_calls y1 x1 _).mono ?_
  rintro e w' ⟨rfl, rfl⟩
  go_wp2_with fail
  go_ret
  exact ⟨rfl, grow3' _ _ _ _⟩

set_option maxHeartbeats 1000000 in
theorem cmp_parts (o : Ordr) (hk1 : o.kind = 2) (h0 : 0 ≤ o.shift) (h63 : o.shift < 64) (x y : It) (W : World) : Calls Try.prog 36 #[vOrd o, vIt x, vIt y] W fun e w' => e = .returned (.int .i64 (sg (x.1 / 2 ^ o.shift.toNat) (y.1 / 2 ^ o.shift.toNat))) ∧ ∃ q os, w' = grow (W.drewN q) os := by
  obtain ⟨k, s, m0, m1, m2⟩ := o
  obtain ⟨x1, x2⟩ := x
  obtain ⟨y1, y2⟩ := y
  dsimp only at hk1 h0 h63
  subst hk1
  have g1 : ¬ s < 0 := by omega
  have g2 : ¬ 63 < s := by omega
  obtain ⟨n, rfl⟩ := Int.eq_ofNat_of_zero_le h0
  dsimp only
  rw [Int.toNat_natCast]
  go_enter Try.func36, Try.ntmps36
  go_wp2_with fail
  go_quiet ((go_at_call 78; exact Calls.quiet_of_same (of_calls _ _ _)))
  go_wp2_with fail
  go_ret
  exact ⟨rfl, nq, _, grow3 _ _ _ _ _⟩

set_option maxHeartbeats 1000000 in
theorem cmp_wild (o : Ordr) (hk1 : o.kind = 3) (x y : It) (W : World) : Calls Try.prog 36 #[vOrd o, vIt x, vIt y] W fun e w' => e = .returned (.int .i64 (wildC o.m0 o.m1 o.m2 x.1 y.1)) ∧ ∃ q os, w' = grow (W.drewN q) os := by
  obtain ⟨k, s, m0, m1, m2⟩ := o
  obtain ⟨x1, x2⟩ := x
  obtain ⟨y1, y2⟩ := y
  dsimp only at hk1
  subst hk1
  go_enter Try.func36, Try.ntmps36
  go_wp2_with fail
  go_ret
  exact ⟨rfl, grow3' _ _ _ _⟩

theorem cmpC_of (o : Ordr) (h0 : 0 ≤ o.shift) (h63 : o.shift < 64) : CmpC (vOrd o) (cfO o) := fun x y W => by
  unfold cfO
  by_cases k1 : o.kind = 1
  · rw [if_pos k1]; exact cmp_down o k1 x y W
  · rw [if_neg k1]
    by_cases k2 : o.kind = 2
    · rw [if_pos k2]; exact cmp_parts o k2 h0 h63 x y W
    · rw [if_neg k2]
      by_cases k3 : o.kind = 3
      · rw [if_pos k3]; exact cmp_wild o k3 x y W
      · rw [if_neg k3]; exact cmp_up o k1 k2 k3 x y W
end Go.Proofs.Ytglgmkikegbchaa
