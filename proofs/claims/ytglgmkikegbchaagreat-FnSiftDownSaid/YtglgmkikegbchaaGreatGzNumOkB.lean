/- spec.Numbers of each function, whatever its numbers (printed by gen/numok.py). -/
import Derived.Test.YtglgmkikegbchaaGreatGzNumB
namespace Go.Proofs.YtglgmkikegbchaaGreat
open Go.RowKit Go.Sort

theorem numok_1 (m : Nat) (x y z : Int) : ∃ OK : Bool, (OK = true → ∃ X Y Z : Nat, x = X ∧ y = Y ∧ z = Z ∧ X ≤ 2000 ∧ Y ≤ 2000 ∧ Z ≤ 2000 ∧ (X < Y ∧ Z + Y ≤ m)) ∧
    ∀ (na : Option Addr) (ncap : Nat) (W : World), RdN W na #[x, y, z] → Calls Tryz.prog 26 #[.int .i64 1, .int .i64 m, .slice na 3 ncap] W fun e w' => ∃ u v, e = .returned (.tuple #[u, v, .bool OK]) ∧ (OK = true → ∀ X Y Z : Nat, x = X → y = Y → z = Z → u = .int .i64 ((Z : Nat) : Int) ∧ v = .int .i64 ((Z + Y : Nat) : Int)) ∧ Below W.heap.size W w' := by
  by_cases h : in2k x ∧ in2k y ∧ in2k z
  · refine ⟨_, ?_, fun na ncap W hN => (numbers_1 m na ncap x y z W hN h.1 h.2.1 h.2.2).mono fun e w' ⟨h1, h2⟩ => ⟨_, _, h1, ?_, h2⟩⟩
    · intro e
      simp only [Bool.and_eq_true, decide_eq_true_eq] at e
      obtain ⟨⟨x0, x1⟩, ⟨y0, y1⟩, ⟨z0, z1⟩⟩ := h
      obtain ⟨X, rfl⟩ := Int.eq_ofNat_of_zero_le x0
      obtain ⟨Y, rfl⟩ := Int.eq_ofNat_of_zero_le y0
      obtain ⟨Z, rfl⟩ := Int.eq_ofNat_of_zero_le z0
      exact ⟨X, Y, Z, rfl, rfl, rfl, by omega, by omega, by omega, by omega⟩
    · intro _ X Y Z ex ey ez
      subst ex ey ez
      exact ⟨by congr 1; try omega, by congr 1; try omega⟩
  · refine ⟨false, fun e => (by cases e), fun na ncap W hN => (numbers_bad 1 m na ncap 3 #[x, y, z] W hN rfl (by decide) (by decide) (Or.inr (Or.inr (Or.inr ?_)))).mono fun e w' ⟨h1, h2⟩ => ⟨_, _, h1, fun e => (by cases e), h2⟩⟩
    by_cases hx : in2k x
    · by_cases hy : in2k y
      · exact ⟨2, by omega, fun hz => h ⟨hx, hy, hz⟩⟩
      · exact ⟨1, by omega, hy⟩
    · exact ⟨0, by omega, hx⟩

theorem numok_3 (m : Nat) (x y z : Int) : ∃ OK : Bool, (OK = true → ∃ X Y Z : Nat, x = X ∧ y = Y ∧ z = Z ∧ X ≤ 2000 ∧ Y ≤ 2000 ∧ Z ≤ 2000 ∧ (X ≤ Y ∧ Y ≤ m ∧ Z ≤ 64)) ∧
    ∀ (na : Option Addr) (ncap : Nat) (W : World), RdN W na #[x, y, z] → Calls Tryz.prog 26 #[.int .i64 3, .int .i64 m, .slice na 3 ncap] W fun e w' => ∃ u v, e = .returned (.tuple #[u, v, .bool OK]) ∧ (OK = true → ∀ X Y Z : Nat, x = X → y = Y → z = Z → u = .int .i64 ((X : Nat) : Int) ∧ v = .int .i64 ((Y : Nat) : Int)) ∧ Below W.heap.size W w' := by
  by_cases h : in2k x ∧ in2k y ∧ in2k z
  · refine ⟨_, ?_, fun na ncap W hN => (numbers_3 m na ncap x y z W hN h.1 h.2.1 h.2.2).mono fun e w' ⟨h1, h2⟩ => ⟨_, _, h1, ?_, h2⟩⟩
    · intro e
      simp only [Bool.and_eq_true, decide_eq_true_eq] at e
      obtain ⟨⟨x0, x1⟩, ⟨y0, y1⟩, ⟨z0, z1⟩⟩ := h
      obtain ⟨X, rfl⟩ := Int.eq_ofNat_of_zero_le x0
      obtain ⟨Y, rfl⟩ := Int.eq_ofNat_of_zero_le y0
      obtain ⟨Z, rfl⟩ := Int.eq_ofNat_of_zero_le z0
      exact ⟨X, Y, Z, rfl, rfl, rfl, by omega, by omega, by omega, by omega⟩
    · intro _ X Y Z ex ey ez
      subst ex ey ez
      exact ⟨by congr 1; try omega, by congr 1; try omega⟩
  · refine ⟨false, fun e => (by cases e), fun na ncap W hN => (numbers_bad 3 m na ncap 3 #[x, y, z] W hN rfl (by decide) (by decide) (Or.inr (Or.inr (Or.inr ?_)))).mono fun e w' ⟨h1, h2⟩ => ⟨_, _, h1, fun e => (by cases e), h2⟩⟩
    by_cases hx : in2k x
    · by_cases hy : in2k y
      · exact ⟨2, by omega, fun hz => h ⟨hx, hy, hz⟩⟩
      · exact ⟨1, by omega, hy⟩
    · exact ⟨0, by omega, hx⟩

theorem numok_4 (m : Nat) (x y z : Int) : ∃ OK : Bool, (OK = true → ∃ X Y Z : Nat, x = X ∧ y = Y ∧ z = Z ∧ X ≤ 2000 ∧ Y ≤ 2000 ∧ Z ≤ 2000 ∧ (X ≤ Y ∧ Y ≤ m ∧ X ≤ Z ∧ Z < Y)) ∧
    ∀ (na : Option Addr) (ncap : Nat) (W : World), RdN W na #[x, y, z] → Calls Tryz.prog 26 #[.int .i64 4, .int .i64 m, .slice na 3 ncap] W fun e w' => ∃ u v, e = .returned (.tuple #[u, v, .bool OK]) ∧ (OK = true → ∀ X Y Z : Nat, x = X → y = Y → z = Z → u = .int .i64 ((X : Nat) : Int) ∧ v = .int .i64 ((Y : Nat) : Int)) ∧ Below W.heap.size W w' := by
  by_cases h : in2k x ∧ in2k y ∧ in2k z
  · refine ⟨_, ?_, fun na ncap W hN => (numbers_4 m na ncap x y z W hN h.1 h.2.1 h.2.2).mono fun e w' ⟨h1, h2⟩ => ⟨_, _, h1, ?_, h2⟩⟩
    · intro e
      simp only [Bool.and_eq_true, decide_eq_true_eq] at e
      obtain ⟨⟨x0, x1⟩, ⟨y0, y1⟩, ⟨z0, z1⟩⟩ := h
      obtain ⟨X, rfl⟩ := Int.eq_ofNat_of_zero_le x0
      obtain ⟨Y, rfl⟩ := Int.eq_ofNat_of_zero_le y0
      obtain ⟨Z, rfl⟩ := Int.eq_ofNat_of_zero_le z0
      exact ⟨X, Y, Z, rfl, rfl, rfl, by omega, by omega, by omega, by omega⟩
    · intro _ X Y Z ex ey ez
      subst ex ey ez
      exact ⟨by congr 1; try omega, by congr 1; try omega⟩
  · refine ⟨false, fun e => (by cases e), fun na ncap W hN => (numbers_bad 4 m na ncap 3 #[x, y, z] W hN rfl (by decide) (by decide) (Or.inr (Or.inr (Or.inr ?_)))).mono fun e w' ⟨h1, h2⟩ => ⟨_, _, h1, fun e => (by cases e), h2⟩⟩
    by_cases hx : in2k x
    · by_cases hy : in2k y
      · exact ⟨2, by omega, fun hz => h ⟨hx, hy, hz⟩⟩
      · exact ⟨1, by omega, hy⟩
    · exact ⟨0, by omega, hx⟩

end Go.Proofs.YtglgmkikegbchaaGreat
