/- slices.Min, slices.Max (printed by gen/ends.py). -/
import Derived.Test.YtglgmkikegbchaaaNums
import Derived.Test.YtglgmkikegbchaaKa
namespace Go.Proofs.Ytglgmkikegbchaa
open Go.RowKit Go.Sort

def MinFOf (d : Array Nat) (i : Nat) (m : Nat) : Prop := (∀ j, j < i → nanF d[j]! = true → nanF m = true) ∧ ((∀ j, j < i → nanF d[j]! = false) → nanF m = false ∧ (∃ j, j < i ∧ m = d[j]!) ∧ ∀ j, j < i → muF m ≤ muF d[j]!)
/-- What slices.Min tells. -/
def MinFTo (w : World) (d : Array Nat) (e : Ending) (w' : World) : Prop := ∃ m, e = .returned (.float .f64 m) ∧ MinFOf d d.size m ∧ ∃ q, w' = w.drewN q
set_option maxHeartbeats 2000000 in
set_option maxRecDepth 1000000 in
theorem minF_calls (b cap n : Nat) (d : Array Nat) (w : World) (h : Holds eFl w b 0 d) (hn : d.size = n) (h0 : 0 < n) (hsz : n ≤ 2000) : Calls Try.prog 51 #[.slice (some ⟨b, 0, none⟩) n cap] w (MinFTo w d) := by
  have H : Aside (Holds eFl w b 0 d ∧ d.size = n) := ⟨h, hn⟩
  obtain ⟨x0, hx0⟩ : ∃ x, x = d[0]! := ⟨_, rfl⟩
  have c0 := (h 0 (by omega)).1
  rw [← hx0] at c0
  have h1 : 1 ≤ n := h0
  have h1z : (1 : Int) ≤ (n : Int) := by omega
  have h0z : (0 : Int) < (n : Int) := by omega
  have h1zn : ¬ (n : Int) < 1 := by omega
  have I0 : Aside (MinFOf d 1 x0) := by
    show MinFOf d 1 x0
    exact ⟨fun j h hj => by cases (show j = 0 by omega); rw [hx0]; exact hj, fun hj => ⟨by rw [hx0]; exact hj 0 (by omega), ⟨0, by omega, hx0⟩, fun j h => by cases (show j = 0 by omega); rw [hx0]; exact Int.le_refl _⟩⟩
  clear h hn hx0
  go_enter Try.func51, Try.ntmps51
  go_wp2_with fail
  go_loopg [3, 4] n (fun g vm vi wr => ∃ (m : Nat) (i q : Nat), vm = .float .f64 m ∧ vi = .int .i64 i ∧ 1 ≤ i ∧ i ≤ n ∧ n - i ≤ g ∧ Aside (MinFOf d i m) ∧ wr = w.drewN q)
  case atStart => exact ⟨x0, 1, 0, rfl, by go_num, Nat.le_refl _, h1, by omega, I0, rfl⟩
  case round =>
    clear I0 c0
    obtain ⟨m, i, q, rfl, rfl, hi1, hin, hg, HI, rfl⟩ := hrel
    by_cases hlt : i < n
    · have hltz : (i : Int) < (n : Int) := by omega
      obtain ⟨x, hx⟩ : ∃ x, x = d[i]! := ⟨_, rfl⟩
      have c1 : (w.drewN q).cell? ⟨b, i, none⟩ = some (.float .f64 x) := by
        have := (H.out.1 i (by rw [H.out.2]; exact hlt)).1
        rw [← hx, Nat.zero_add] at this
        exact (World.cell?_drewN w q _).trans this
      have HX : Aside (x = d[i]!) := hx
      clear hx
      go_wp2_with (refine wpList_min_fl rfl _ _ _ rfl m x rfl rfl ?_; intro z w2 HZ)
      have IZ : Aside (MinFOf d (i + 1) z) := by
        obtain ⟨⟨z1, z2⟩, _⟩ := HZ.out
        obtain ⟨i1, i2⟩ := HI.out
        have hx := HX.out
        refine ⟨fun j hj hjn => ?_, fun hall => ?_⟩
        · rcases Nat.lt_or_ge j i with h | h
          · exact z1 (Or.inl (i1 j h hjn))
          · obtain rfl : j = i := by omega
            exact z1 (Or.inr (by rw [hx]; exact hjn))
        · obtain ⟨m1, ⟨j, hj, ej⟩, m3⟩ := i2 (fun j hj => hall j (by omega))
          have hxn : nanF x = false := by rw [hx]; exact hall i (by omega)
          obtain ⟨y1, y2, y3⟩ := z2 m1 hxn
          simp only [Bool.false_eq_true, if_false] at y3
          refine ⟨y1, ?_, fun j hj => ?_⟩
          · rcases y2 with y2 | y2
            · exact ⟨j, by omega, by rw [y2]; exact ej⟩
            · exact ⟨i, by omega, by rw [y2]; exact hx⟩
          · rcases Nat.lt_or_ge j i with h | h
            · have := m3 j h; omega
            · obtain rfl : j = i := by omega
              rw [← hx]; omega
      have W2 : Aside (∃ q', w2 = w.drewN q') := by
        rcases HZ.out.2 with h | h
        · exact ⟨q, h⟩
        · exact ⟨q + 1, h⟩
      obtain ⟨q', rfl⟩ := W2.out
      clear HZ HI HX c1 W2
      go_wp2_with fail
      go_roundg (n - (i + 1))
      case measure => omega
      case rel => exact ⟨z, i + 1, q', rfl, by go_num, by omega, by omega, Nat.le_refl _, IZ, rfl⟩
    · have hltz : ¬ (i : Int) < (n : Int) := by omega
      have e : i = n := by omega
      subst e
      go_wp2_with fail
      go_ret
      exact ⟨m, rfl, by rw [H.out.2]; exact HI.out, q, rfl⟩

def MaxFOf (d : Array Nat) (i : Nat) (m : Nat) : Prop := (∀ j, j < i → nanF d[j]! = true → nanF m = true) ∧ ((∀ j, j < i → nanF d[j]! = false) → nanF m = false ∧ (∃ j, j < i ∧ m = d[j]!) ∧ ∀ j, j < i → muF d[j]! ≤ muF m)
/-- What slices.Max tells. -/
def MaxFTo (w : World) (d : Array Nat) (e : Ending) (w' : World) : Prop := ∃ m, e = .returned (.float .f64 m) ∧ MaxFOf d d.size m ∧ ∃ q, w' = w.drewN q
set_option maxHeartbeats 2000000 in
set_option maxRecDepth 1000000 in
theorem maxF_calls (b cap n : Nat) (d : Array Nat) (w : World) (h : Holds eFl w b 0 d) (hn : d.size = n) (h0 : 0 < n) (hsz : n ≤ 2000) : Calls Try.prog 52 #[.slice (some ⟨b, 0, none⟩) n cap] w (MaxFTo w d) := by
  have H : Aside (Holds eFl w b 0 d ∧ d.size = n) := ⟨h, hn⟩
  obtain ⟨x0, hx0⟩ : ∃ x, x = d[0]! := ⟨_, rfl⟩
  have c0 := (h 0 (by omega)).1
  rw [← hx0] at c0
  have h1 : 1 ≤ n := h0
  have h1z : (1 : Int) ≤ (n : Int) := by omega
  have h0z : (0 : Int) < (n : Int) := by omega
  have h1zn : ¬ (n : Int) < 1 := by omega
  have I0 : Aside (MaxFOf d 1 x0) := by
    show MaxFOf d 1 x0
    exact ⟨fun j h hj => by cases (show j = 0 by omega); rw [hx0]; exact hj, fun hj => ⟨by rw [hx0]; exact hj 0 (by omega), ⟨0, by omega, hx0⟩, fun j h => by cases (show j = 0 by omega); rw [hx0]; exact Int.le_refl _⟩⟩
  clear h hn hx0
  go_enter Try.func52, Try.ntmps52
  go_wp2_with fail
  go_loopg [3, 4] n (fun g vm vi wr => ∃ (m : Nat) (i q : Nat), vm = .float .f64 m ∧ vi = .int .i64 i ∧ 1 ≤ i ∧ i ≤ n ∧ n - i ≤ g ∧ Aside (MaxFOf d i m) ∧ wr = w.drewN q)
  case atStart => exact ⟨x0, 1, 0, rfl, by go_num, Nat.le_refl _, h1, by omega, I0, rfl⟩
  case round =>
    clear I0 c0
    obtain ⟨m, i, q, rfl, rfl, hi1, hin, hg, HI, rfl⟩ := hrel
    by_cases hlt : i < n
    · have hltz : (i : Int) < (n : Int) := by omega
      obtain ⟨x, hx⟩ : ∃ x, x = d[i]! := ⟨_, rfl⟩
      have c1 : (w.drewN q).cell? ⟨b, i, none⟩ = some (.float .f64 x) := by
        have := (H.out.1 i (by rw [H.out.2]; exact hlt)).1
        rw [← hx, Nat.zero_add] at this
        exact (World.cell?_drewN w q _).trans this
      have HX : Aside (x = d[i]!) := hx
      clear hx
      go_wp2_with (refine wpList_max_fl rfl _ _ _ rfl m x rfl rfl ?_; intro z w2 HZ)
      have IZ : Aside (MaxFOf d (i + 1) z) := by
        obtain ⟨⟨z1, z2⟩, _⟩ := HZ.out
        obtain ⟨i1, i2⟩ := HI.out
        have hx := HX.out
        refine ⟨fun j hj hjn => ?_, fun hall => ?_⟩
        · rcases Nat.lt_or_ge j i with h | h
          · exact z1 (Or.inl (i1 j h hjn))
          · obtain rfl : j = i := by omega
            exact z1 (Or.inr (by rw [hx]; exact hjn))
        · obtain ⟨m1, ⟨j, hj, ej⟩, m3⟩ := i2 (fun j hj => hall j (by omega))
          have hxn : nanF x = false := by rw [hx]; exact hall i (by omega)
          obtain ⟨y1, y2, y3⟩ := z2 m1 hxn
          simp only [if_true] at y3
          refine ⟨y1, ?_, fun j hj => ?_⟩
          · rcases y2 with y2 | y2
            · exact ⟨j, by omega, by rw [y2]; exact ej⟩
            · exact ⟨i, by omega, by rw [y2]; exact hx⟩
          · rcases Nat.lt_or_ge j i with h | h
            · have := m3 j h; omega
            · obtain rfl : j = i := by omega
              rw [← hx]; omega
      have W2 : Aside (∃ q', w2 = w.drewN q') := by
        rcases HZ.out.2 with h | h
        · exact ⟨q, h⟩
        · exact ⟨q + 1, h⟩
      obtain ⟨q', rfl⟩ := W2.out
      clear HZ HI HX c1 W2
      go_wp2_with fail
      go_roundg (n - (i + 1))
      case measure => omega
      case rel => exact ⟨z, i + 1, q', rfl, by go_num, by omega, by omega, Nat.le_refl _, IZ, rfl⟩
    · have hltz : ¬ (i : Int) < (n : Int) := by omega
      have e : i = n := by omega
      subst e
      go_wp2_with fail
      go_ret
      exact ⟨m, rfl, by rw [H.out.2]; exact HI.out, q, rfl⟩

def MinIOf (d : Array Int) (i : Nat) (m : Int) : Prop := (∃ j, j < i ∧ m = d[j]!) ∧ ∀ j, j < i → m ≤ d[j]!
/-- What slices.Min tells. -/
def MinITo (w : World) (d : Array Int) (e : Ending) (w' : World) : Prop := ∃ m, e = .returned (.int .i64 m) ∧ MinIOf d d.size m ∧ ∃ q, w' = w.drewN q
set_option maxHeartbeats 2000000 in
set_option maxRecDepth 1000000 in
theorem minI_calls (b cap n : Nat) (d : Array Int) (w : World) (h : Holds eI w b 0 d) (hn : d.size = n) (h0 : 0 < n) (hsz : n ≤ 2000) : Calls Try.prog 54 #[.slice (some ⟨b, 0, none⟩) n cap] w (MinITo w d) := by
  have H : Aside (Holds eI w b 0 d ∧ d.size = n) := ⟨h, hn⟩
  obtain ⟨x0, hx0⟩ : ∃ x, x = d[0]! := ⟨_, rfl⟩
  have c0 := (h 0 (by omega)).1
  rw [← hx0] at c0
  have h1 : 1 ≤ n := h0
  have h1z : (1 : Int) ≤ (n : Int) := by omega
  have h0z : (0 : Int) < (n : Int) := by omega
  have h1zn : ¬ (n : Int) < 1 := by omega
  have I0 : Aside (MinIOf d 1 x0) := by
    show MinIOf d 1 x0
    exact ⟨⟨0, by omega, hx0⟩, fun j h => by cases (show j = 0 by omega); rw [hx0]; exact Int.le_refl _⟩
  clear h hn hx0
  go_enter Try.func54, Try.ntmps54
  go_wp2_with fail
  go_loopg [3, 4] n (fun g vm vi wr => ∃ (m : Int) (i q : Nat), vm = .int .i64 m ∧ vi = .int .i64 i ∧ 1 ≤ i ∧ i ≤ n ∧ n - i ≤ g ∧ Aside (MinIOf d i m) ∧ wr = w.drewN q)
  case atStart => exact ⟨x0, 1, 0, rfl, by go_num, Nat.le_refl _, h1, by omega, I0, rfl⟩
  case round =>
    clear I0 c0
    obtain ⟨m, i, q, rfl, rfl, hi1, hin, hg, HI, rfl⟩ := hrel
    by_cases hlt : i < n
    · have hltz : (i : Int) < (n : Int) := by omega
      obtain ⟨x, hx⟩ : ∃ x, x = d[i]! := ⟨_, rfl⟩
      have c1 : (w.drewN q).cell? ⟨b, i, none⟩ = some (.int .i64 x) := by
        have := (H.out.1 i (by rw [H.out.2]; exact hlt)).1
        rw [← hx, Nat.zero_add] at this
        exact (World.cell?_drewN w q _).trans this
      have HX : Aside (x = d[i]!) := hx
      clear hx
      have IZ : Aside (MinIOf d (i + 1) (min m x)) := by
        obtain ⟨⟨j, hj, ej⟩, m3⟩ := HI.out
        have hx := HX.out
        refine ⟨?_, fun j hj => ?_⟩
        · rcases (show min m x = m ∨ min m x = x by omega) with h | h
          · exact ⟨j, by omega, by rw [h]; exact ej⟩
          · exact ⟨i, by omega, by rw [h]; exact hx⟩
        · rcases Nat.lt_or_ge j i with h | h
          · have := m3 j h; omega
          · obtain rfl : j = i := by omega
            rw [← hx]; omega
      clear HI HX
      go_wp2_with fail
      go_roundg (n - (i + 1))
      case measure => omega
      case rel => exact ⟨min m x, i + 1, q, rfl, by go_num, by omega, by omega, Nat.le_refl _, IZ, rfl⟩
    · have hltz : ¬ (i : Int) < (n : Int) := by omega
      have e : i = n := by omega
      subst e
      go_wp2_with fail
      go_ret
      exact ⟨m, rfl, by rw [H.out.2]; exact HI.out, q, rfl⟩

def MaxIOf (d : Array Int) (i : Nat) (m : Int) : Prop := (∃ j, j < i ∧ m = d[j]!) ∧ ∀ j, j < i → d[j]! ≤ m
/-- What slices.Max tells. -/
def MaxITo (w : World) (d : Array Int) (e : Ending) (w' : World) : Prop := ∃ m, e = .returned (.int .i64 m) ∧ MaxIOf d d.size m ∧ ∃ q, w' = w.drewN q
set_option maxHeartbeats 2000000 in
set_option maxRecDepth 1000000 in
theorem maxI_calls (b cap n : Nat) (d : Array Int) (w : World) (h : Holds eI w b 0 d) (hn : d.size = n) (h0 : 0 < n) (hsz : n ≤ 2000) : Calls Try.prog 55 #[.slice (some ⟨b, 0, none⟩) n cap] w (MaxITo w d) := by
  have H : Aside (Holds eI w b 0 d ∧ d.size = n) := ⟨h, hn⟩
  obtain ⟨x0, hx0⟩ : ∃ x, x = d[0]! := ⟨_, rfl⟩
  have c0 := (h 0 (by omega)).1
  rw [← hx0] at c0
  have h1 : 1 ≤ n := h0
  have h1z : (1 : Int) ≤ (n : Int) := by omega
  have h0z : (0 : Int) < (n : Int) := by omega
  have h1zn : ¬ (n : Int) < 1 := by omega
  have I0 : Aside (MaxIOf d 1 x0) := by
    show MaxIOf d 1 x0
    exact ⟨⟨0, by omega, hx0⟩, fun j h => by cases (show j = 0 by omega); rw [hx0]; exact Int.le_refl _⟩
  clear h hn hx0
  go_enter Try.func55, Try.ntmps55
  go_wp2_with fail
  go_loopg [3, 4] n (fun g vm vi wr => ∃ (m : Int) (i q : Nat), vm = .int .i64 m ∧ vi = .int .i64 i ∧ 1 ≤ i ∧ i ≤ n ∧ n - i ≤ g ∧ Aside (MaxIOf d i m) ∧ wr = w.drewN q)
  case atStart => exact ⟨x0, 1, 0, rfl, by go_num, Nat.le_refl _, h1, by omega, I0, rfl⟩
  case round =>
    clear I0 c0
    obtain ⟨m, i, q, rfl, rfl, hi1, hin, hg, HI, rfl⟩ := hrel
    by_cases hlt : i < n
    · have hltz : (i : Int) < (n : Int) := by omega
      obtain ⟨x, hx⟩ : ∃ x, x = d[i]! := ⟨_, rfl⟩
      have c1 : (w.drewN q).cell? ⟨b, i, none⟩ = some (.int .i64 x) := by
        have := (H.out.1 i (by rw [H.out.2]; exact hlt)).1
        rw [← hx, Nat.zero_add] at this
        exact (World.cell?_drewN w q _).trans this
      have HX : Aside (x = d[i]!) := hx
      clear hx
      have IZ : Aside (MaxIOf d (i + 1) (max m x)) := by
        obtain ⟨⟨j, hj, ej⟩, m3⟩ := HI.out
        have hx := HX.out
        refine ⟨?_, fun j hj => ?_⟩
        · rcases (show max m x = m ∨ max m x = x by omega) with h | h
          · exact ⟨j, by omega, by rw [h]; exact ej⟩
          · exact ⟨i, by omega, by rw [h]; exact hx⟩
        · rcases Nat.lt_or_ge j i with h | h
          · have := m3 j h; omega
          · obtain rfl : j = i := by omega
            rw [← hx]; omega
      clear HI HX
      go_wp2_with fail
      go_roundg (n - (i + 1))
      case measure => omega
      case rel => exact ⟨max m x, i + 1, q, rfl, by go_num, by omega, by omega, Nat.le_refl _, IZ, rfl⟩
    · have hltz : ¬ (i : Int) < (n : Int) := by omega
      have e : i = n := by omega
      subst e
      go_wp2_with fail
      go_ret
      exact ⟨m, rfl, by rw [H.out.2]; exact HI.out, q, rfl⟩
end Go.Proofs.Ytglgmkikegbchaa
