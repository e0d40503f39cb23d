/- spec.Numbers of each function, whatever its numbers (printed by gen/numok.py). -/
import Derived.Test.YtglgmkikegbchaaGreatGzNumA
namespace Go.Proofs.YtglgmkikegbchaaGreat
open Go.RowKit Go.Sort

theorem numok_0 (m : Nat) (x y : Int) : ∃ OK : Bool, (OK = true → ∃ X Y : Nat, x = X ∧ y = Y ∧ X ≤ 2000 ∧ Y ≤ 2000 ∧ (X ≤ Y ∧ Y ≤ m)) ∧
    ∀ (na : Option Addr) (ncap : Nat) (W : World), RdN W na #[x, y] → Calls Tryz.prog 26 #[.int .i64 0, .int .i64 m, .slice na 2 ncap] W fun e w' => ∃ u v, e = .returned (.tuple #[u, v, .bool OK]) ∧ (OK = true → ∀ X Y : Nat, x = X → y = Y → u = .int .i64 ((X : Nat) : Int) ∧ v = .int .i64 ((Y : Nat) : Int)) ∧ Below W.heap.size W w' := by
  by_cases h : in2k x ∧ in2k y
  · refine ⟨_, ?_, fun na ncap W hN => (numbers_0 m na ncap x y W hN h.1 h.2).mono fun e w' ⟨h1, h2⟩ => ⟨_, _, h1, ?_, h2⟩⟩
    · intro e
      simp only [Bool.and_eq_true, decide_eq_true_eq] at e
      obtain ⟨⟨x0, x1⟩, ⟨y0, y1⟩⟩ := h
      obtain ⟨X, rfl⟩ := Int.eq_ofNat_of_zero_le x0
      obtain ⟨Y, rfl⟩ := Int.eq_ofNat_of_zero_le y0
      exact ⟨X, Y, rfl, rfl, by omega, by omega, by omega⟩
    · intro _ X Y ex ey
      subst ex ey
      exact ⟨by congr 1; try omega, by congr 1; try omega⟩
  · refine ⟨false, fun e => (by cases e), fun na ncap W hN => (numbers_bad 0 m na ncap 2 #[x, y] W hN rfl (by decide) (by decide) (Or.inr (Or.inr (Or.inr ?_)))).mono fun e w' ⟨h1, h2⟩ => ⟨_, _, h1, fun e => (by cases e), h2⟩⟩
    by_cases hx : in2k x
    · exact ⟨1, by omega, fun hy => h ⟨hx, hy⟩⟩
    · exact ⟨0, by omega, hx⟩

theorem numok_2 (m : Nat) (x y : Int) : ∃ OK : Bool, (OK = true → ∃ X Y : Nat, x = X ∧ y = Y ∧ X ≤ 2000 ∧ Y ≤ 2000 ∧ (X ≤ Y ∧ Y ≤ m)) ∧
    ∀ (na : Option Addr) (ncap : Nat) (W : World), RdN W na #[x, y] → Calls Tryz.prog 26 #[.int .i64 2, .int .i64 m, .slice na 2 ncap] W fun e w' => ∃ u v, e = .returned (.tuple #[u, v, .bool OK]) ∧ (OK = true → ∀ X Y : Nat, x = X → y = Y → u = .int .i64 ((X : Nat) : Int) ∧ v = .int .i64 ((Y : Nat) : Int)) ∧ Below W.heap.size W w' := by
  by_cases h : in2k x ∧ in2k y
  · refine ⟨_, ?_, fun na ncap W hN => (numbers_2 m na ncap x y W hN h.1 h.2).mono fun e w' ⟨h1, h2⟩ => ⟨_, _, h1, ?_, h2⟩⟩
    · intro e
      simp only [Bool.and_eq_true, decide_eq_true_eq] at e
      obtain ⟨⟨x0, x1⟩, ⟨y0, y1⟩⟩ := h
      obtain ⟨X, rfl⟩ := Int.eq_ofNat_of_zero_le x0
      obtain ⟨Y, rfl⟩ := Int.eq_ofNat_of_zero_le y0
      exact ⟨X, Y, rfl, rfl, by omega, by omega, by omega⟩
    · intro _ X Y ex ey
      subst ex ey
      exact ⟨by congr 1; try omega, by congr 1; try omega⟩
  · refine ⟨false, fun e => (by cases e), fun na ncap W hN => (numbers_bad 2 m na ncap 2 #[x, y] W hN rfl (by decide) (by decide) (Or.inr (Or.inr (Or.inr ?_)))).mono fun e w' ⟨h1, h2⟩ => ⟨_, _, h1, fun e => (by cases e), h2⟩⟩
    by_cases hx : in2k x
    · exact ⟨1, by omega, fun hy => h ⟨hx, hy⟩⟩
    · exact ⟨0, by omega, hx⟩

theorem numok_7 (m : Nat) (x y : Int) : ∃ OK : Bool, (OK = true → ∃ X Y : Nat, x = X ∧ y = Y ∧ X ≤ 2000 ∧ Y ≤ 2000 ∧ (X ≤ Y ∧ Y ≤ m)) ∧
    ∀ (na : Option Addr) (ncap : Nat) (W : World), RdN W na #[x, y] → Calls Tryz.prog 26 #[.int .i64 7, .int .i64 m, .slice na 2 ncap] W fun e w' => ∃ u v, e = .returned (.tuple #[u, v, .bool OK]) ∧ (OK = true → ∀ X Y : Nat, x = X → y = Y → u = .int .i64 ((X : Nat) : Int) ∧ v = .int .i64 ((Y : Nat) : Int)) ∧ Below W.heap.size W w' := by
  by_cases h : in2k x ∧ in2k y
  · refine ⟨_, ?_, fun na ncap W hN => (numbers_7 m na ncap x y W hN h.1 h.2).mono fun e w' ⟨h1, h2⟩ => ⟨_, _, h1, ?_, h2⟩⟩
    · intro e
      simp only [Bool.and_eq_true, decide_eq_true_eq] at e
      obtain ⟨⟨x0, x1⟩, ⟨y0, y1⟩⟩ := h
      obtain ⟨X, rfl⟩ := Int.eq_ofNat_of_zero_le x0
      obtain ⟨Y, rfl⟩ := Int.eq_ofNat_of_zero_le y0
      exact ⟨X, Y, rfl, rfl, by omega, by omega, by omega⟩
    · intro _ X Y ex ey
      subst ex ey
      exact ⟨by congr 1; try omega, by congr 1; try omega⟩
  · refine ⟨false, fun e => (by cases e), fun na ncap W hN => (numbers_bad 7 m na ncap 2 #[x, y] W hN rfl (by decide) (by decide) (Or.inr (Or.inr (Or.inr ?_)))).mono fun e w' ⟨h1, h2⟩ => ⟨_, _, h1, fun e => (by cases e), h2⟩⟩
    by_cases hx : in2k x
    · exact ⟨1, by omega, fun hy => h ⟨hx, hy⟩⟩
    · exact ⟨0, by omega, hx⟩

theorem numok_12 (m : Nat) (x y : Int) : ∃ OK : Bool, (OK = true → ∃ X Y : Nat, x = X ∧ y = Y ∧ X ≤ 2000 ∧ Y ≤ 2000 ∧ (X ≤ Y ∧ Y ≤ m)) ∧
    ∀ (na : Option Addr) (ncap : Nat) (W : World), RdN W na #[x, y] → Calls Tryz.prog 26 #[.int .i64 12, .int .i64 m, .slice na 2 ncap] W fun e w' => ∃ u v, e = .returned (.tuple #[u, v, .bool OK]) ∧ (OK = true → ∀ X Y : Nat, x = X → y = Y → u = .int .i64 ((X : Nat) : Int) ∧ v = .int .i64 ((Y : Nat) : Int)) ∧ Below W.heap.size W w' := by
  by_cases h : in2k x ∧ in2k y
  · refine ⟨_, ?_, fun na ncap W hN => (numbers_12 m na ncap x y W hN h.1 h.2).mono fun e w' ⟨h1, h2⟩ => ⟨_, _, h1, ?_, h2⟩⟩
    · intro e
      simp only [Bool.and_eq_true, decide_eq_true_eq] at e
      obtain ⟨⟨x0, x1⟩, ⟨y0, y1⟩⟩ := h
      obtain ⟨X, rfl⟩ := Int.eq_ofNat_of_zero_le x0
      obtain ⟨Y, rfl⟩ := Int.eq_ofNat_of_zero_le y0
      exact ⟨X, Y, rfl, rfl, by omega, by omega, by omega⟩
    · intro _ X Y ex ey
      subst ex ey
      exact ⟨by congr 1; try omega, by congr 1; try omega⟩
  · refine ⟨false, fun e => (by cases e), fun na ncap W hN => (numbers_bad 12 m na ncap 2 #[x, y] W hN rfl (by decide) (by decide) (Or.inr (Or.inr (Or.inr ?_)))).mono fun e w' ⟨h1, h2⟩ => ⟨_, _, h1, fun e => (by cases e), h2⟩⟩
    by_cases hx : in2k x
    · exact ⟨1, by omega, fun hy => h ⟨hx, hy⟩⟩
    · exact ⟨0, by omega, hx⟩

theorem numok_14 (m : Nat) (x : Int) : ∃ OK : Bool, (OK = true → ∃ X : Nat, x = X ∧ X ≤ 2000 ∧ (X ≤ m)) ∧
    ∀ (na : Option Addr) (ncap : Nat) (W : World), RdN W na #[x] → Calls Tryz.prog 26 #[.int .i64 14, .int .i64 m, .slice na 1 ncap] W fun e w' => ∃ u v, e = .returned (.tuple #[u, v, .bool OK]) ∧ (OK = true → ∀ X : Nat, x = X → u = .int .i64 ((0 : Nat) : Int) ∧ v = .int .i64 ((X : Nat) : Int)) ∧ Below W.heap.size W w' := by
  by_cases h : in2k x
  · refine ⟨_, ?_, fun na ncap W hN => (numbers_14 m na ncap x W hN h).mono fun e w' ⟨h1, h2⟩ => ⟨_, _, h1, ?_, h2⟩⟩
    · intro e
      simp only [decide_eq_true_eq] at e
      obtain ⟨x0, x1⟩ := h
      obtain ⟨X, rfl⟩ := Int.eq_ofNat_of_zero_le x0
      exact ⟨X, rfl, by omega, by omega⟩
    · intro _ X ex
      subst ex
      exact ⟨by congr 1; try omega, by congr 1; try omega⟩
  · refine ⟨false, fun e => (by cases e), fun na ncap W hN => (numbers_bad 14 m na ncap 1 #[x] W hN rfl (by decide) (by decide) (Or.inr (Or.inr (Or.inr ?_)))).mono fun e w' ⟨h1, h2⟩ => ⟨_, _, h1, fun e => (by cases e), h2⟩⟩
    exact ⟨0, by omega, h⟩

end Go.Proofs.YtglgmkikegbchaaGreat
