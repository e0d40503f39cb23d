/- Floats by their bits: an order, those that are no number ahead of all others. -/
import GoSem.Core.Float
import Derived.Test.YtglgmkikegbchaaPc
namespace Go.Proofs.Ytglgmkikegbchaa
open Go.Sort

/-- How two floats stand to each other. -/
abbrev ordF (x y : Nat) : Option Ordering := FloatKind.f64.format.order x y
/-- Whether a float is no number. -/
def nanF (x : Nat) : Bool := ordF x x != some .eq
def ltFl (x y : Nat) : Bool := (nanF x && !nanF y) || ordF x y == some .lt

/-- More than every finite float, in units of the least one. -/
def pw (n : Nat) : Int := 2 ^ n
theorem pw_pos (n : Nat) : 0 < pw n := by unfold pw; exact Int.pow_pos (by decide)
def HUGE : Int := pw 2200
def muD : Ieee.Datum → Int
  | .number s m e => Ieee.signed s m (e - Ieee.double.leastPlace).toNat
  | .infinity s => if s then -HUGE else HUGE
  | .nan .. => -HUGE - 1
def muF (x : Nat) : Int := muD (Ieee.double.read x)

theorem huge_pos : 0 < HUGE := pw_pos 2200
theorem signed_add (s : Bool) (m a b : Nat) : Ieee.signed s m (a + b) = Ieee.signed s m a * 2 ^ b := by
  have h : ((m <<< (a + b) : Nat) : Int) = ((m <<< a : Nat) : Int) * 2 ^ b := by
    rw [Nat.shiftLeft_eq, Nat.shiftLeft_eq, Nat.pow_add, ← Nat.mul_assoc]
    push_cast
    rfl
  unfold Ieee.signed
  cases s
  · simp only [Bool.false_eq_true, if_false]; exact h
  · simp only [if_true]; rw [h, Int.neg_mul]
theorem signed_pw (s : Bool) (m k a K E : Nat) (hm : m < 2 ^ a) (hk : k ≤ K) (hE : a + K ≤ E) : -pw E < Ieee.signed s m k ∧ Ieee.signed s m k < pw E := by
  have h : m <<< k < 2 ^ E := by
    rw [Nat.shiftLeft_eq]
    have h1 : m * 2 ^ k ≤ m * 2 ^ K := Nat.mul_le_mul_left _ (Nat.pow_le_pow_right (by decide) hk)
    have h2 : m * 2 ^ K < 2 ^ a * 2 ^ K := Nat.mul_lt_mul_of_pos_right hm (Nat.two_pow_pos _)
    have h3 : 2 ^ a * 2 ^ K ≤ 2 ^ E := by rw [← Nat.pow_add]; exact Nat.pow_le_pow_right (by decide) hE
    exact Nat.lt_of_le_of_lt h1 (Nat.lt_of_lt_of_le h2 h3)
  have hc : ((m <<< k : Nat) : Int) < pw E := by
    have : ((m <<< k : Nat) : Int) < ((2 ^ E : Nat) : Int) := Int.ofNat_lt.2 h
    unfold pw
    rwa [Int.natCast_pow] at this
  have h0 : (0 : Int) ≤ ((m <<< k : Nat) : Int) := Int.natCast_nonneg _
  have hp := pw_pos E
  unfold Ieee.signed
  generalize pw E = P at *
  cases s
  · simp only [Bool.false_eq_true, if_false]; generalize ((m <<< k : Nat) : Int) = z at *; omega
  · simp only [if_true]; generalize ((m <<< k : Nat) : Int) = z at *; omega
theorem signed_lt (s : Bool) (m k : Nat) (hm : m < 2 ^ 53) (hk : k ≤ 2046) : -HUGE < Ieee.signed s m k ∧ Ieee.signed s m k < HUGE := signed_pw s m k 53 2046 2200 hm hk (by decide)

/-- What a finite float stands for. -/
theorem read_num {x : Nat} {s : Bool} {m : Nat} {e : Int} (h : Ieee.double.read x = .number s m e) : Ieee.double.leastPlace ≤ e ∧ m < 2 ^ 53 ∧ (e - Ieee.double.leastPlace).toNat ≤ 2046 := by
  have hb : Ieee.double.binade = 2 ^ 52 := rfl
  unfold Ieee.Format.read at h
  dsimp only at h
  split at h
  · rename_i h1
    injection h with h2 h3 h4
    subst h3 h4
    rw [hb] at h1
    exact ⟨Int.le_refl _, by omega, by omega⟩
  · split at h
    · rename_i h1 h2
      injection h with h3 h4 h5
      subst h4 h5
      have hr : x % Ieee.double.signWeight / Ieee.double.binade < 2047 := by
        rw [Nat.div_lt_iff_lt_mul (by rw [hb]; decide)]
        have : Ieee.double.infRung = 2047 * Ieee.double.binade := rfl
        omega
      have hmod : x % Ieee.double.signWeight % Ieee.double.binade < 2 ^ 52 := by rw [hb]; exact Nat.mod_lt _ (by decide)
      generalize x % Ieee.double.signWeight / Ieee.double.binade = q at *
      generalize x % Ieee.double.signWeight % Ieee.double.binade = r at *
      rw [hb]
      refine ⟨by omega, by omega, by omega⟩
    · split at h <;> cases h

theorem cmp_lt (a b : Int) : (compare a b = .lt) ↔ a < b := by
  show (compareOfLessAndEq a b = .lt) ↔ _
  unfold compareOfLessAndEq
  by_cases h : a < b
  · simp [h]
  · by_cases h2 : a = b <;> simp [h, h2]
theorem cmp_eq (a b : Int) : (compare a b = .eq) ↔ a = b := by
  show (compareOfLessAndEq a b = .eq) ↔ _
  unfold compareOfLessAndEq
  by_cases h : a < b
  · simp [h]; omega
  · by_cases h2 : a = b <;> simp [h, h2]
theorem cmp_congr {a b c d : Int} (h1 : a < b ↔ c < d) (h2 : a = b ↔ c = d) : compare a b = compare c d := by
  show compareOfLessAndEq a b = compareOfLessAndEq c d
  unfold compareOfLessAndEq
  by_cases h : a < b
  · rw [if_pos h, if_pos (h1.1 h)]
  · rw [if_neg h, if_neg (fun h' => h (h1.2 h'))]
    by_cases e : a = b
    · rw [if_pos e, if_pos (h2.1 e)]
    · rw [if_neg e, if_neg (fun h' => e (h2.2 h'))]

theorem cmp_is_lt {a b : Int} (h : a < b) : compare a b = .lt := (cmp_lt a b).2 h
theorem cmp_is_gt {a b : Int} (h : b < a) : compare a b = .gt := by
  show compareOfLessAndEq a b = _
  unfold compareOfLessAndEq
  rw [if_neg (by omega), if_neg (by omega)]

theorem huge_np : -HUGE < HUGE := by have := huge_pos; generalize HUGE = h at *; omega
/-- Of two that are numbers the order is that of what they stand for. -/
theorem order_mu {x y : Nat} (hx : (Ieee.double.read x).isNaN = false) (hy : (Ieee.double.read y).isNaN = false) : ordF x y = some (compare (muF x) (muF y)) := by
  have hp := huge_pos
  show (Ieee.double.read x).order (Ieee.double.read y) = _
  unfold muF
  cases ex : Ieee.double.read x with
  | nan s t => rw [ex] at hx; cases hx
  | infinity s =>
    cases ey : Ieee.double.read y with
    | nan s t => rw [ey] at hy; cases hy
    | infinity t =>
      cases s <;> cases t
      · show some (compare 0 0) = some (compare HUGE HUGE); rw [(cmp_eq HUGE HUGE).2 rfl]; rfl
      · show some (compare 1 0) = some (compare HUGE (-HUGE)); rw [cmp_is_gt huge_np]; rfl
      · show some (compare 0 1) = some (compare (-HUGE) HUGE); rw [cmp_is_lt huge_np]; rfl
      · show some (compare 1 1) = some (compare (-HUGE) (-HUGE)); rw [(cmp_eq (-HUGE) (-HUGE)).2 rfl]; rfl
    | number t n j =>
      obtain ⟨_, b2, b3⟩ := read_num ey
      have hb := signed_lt t n _ b2 b3
      cases s
      · show some Ordering.gt = some (compare HUGE (Ieee.signed t n _)); rw [cmp_is_gt hb.2]
      · show some Ordering.lt = some (compare (-HUGE) (Ieee.signed t n _)); rw [cmp_is_lt hb.1]
  | number s m i =>
    obtain ⟨a1, a2, a3⟩ := read_num ex
    have ha := signed_lt s m _ a2 a3
    cases ey : Ieee.double.read y with
    | nan s t => rw [ey] at hy; cases hy
    | infinity t =>
      cases t
      · show some Ordering.lt = some (compare (Ieee.signed s m _) HUGE); rw [cmp_is_lt ha.2]
      · show some Ordering.gt = some (compare (Ieee.signed s m _) (-HUGE)); rw [cmp_is_gt ha.1]
    | number t n j =>
      obtain ⟨b1, b2, b3⟩ := read_num ey
      show some (compare (Ieee.signed s m (i - min i j).toNat) (Ieee.signed t n (j - min i j).toNat)) = some (compare (Ieee.signed s m (i - Ieee.double.leastPlace).toNat) (Ieee.signed t n (j - Ieee.double.leastPlace).toNat))
      generalize Ieee.double.leastPlace = lp at *
      rw [show (i - lp).toNat = (i - min i j).toNat + (min i j - lp).toNat by omega, show (j - lp).toNat = (j - min i j).toNat + (min i j - lp).toNat by omega, signed_add, signed_add]
      have h2 : (0 : Int) < 2 ^ (min i j - lp).toNat := Int.pow_pos (by decide)
      generalize (2 : Int) ^ (min i j - lp).toNat = k at h2
      congr 1
      exact cmp_congr ⟨fun h => Int.mul_lt_mul_of_pos_right h h2, fun h => Int.lt_of_mul_lt_mul_right h (Int.le_of_lt h2)⟩ ⟨fun h => by rw [h], fun h => Int.eq_of_mul_eq_mul_right (by omega) h⟩

theorem order_nan {x y : Nat} (h : (Ieee.double.read x).isNaN = true ∨ (Ieee.double.read y).isNaN = true) : ordF x y = none := by
  show (Ieee.double.read x).order (Ieee.double.read y) = _
  cases ex : Ieee.double.read x <;> cases ey : Ieee.double.read y <;> first | rfl | (rw [ex, ey] at h; simp [Ieee.Datum.isNaN] at h)

theorem nanF_eq (x : Nat) : nanF x = (Ieee.double.read x).isNaN := by
  unfold nanF
  cases h : (Ieee.double.read x).isNaN with
  | true => rw [order_nan (Or.inl h)]; rfl
  | false => rw [order_mu h h, (cmp_eq _ _).2 rfl]; rfl
theorem mu_nan {x : Nat} (h : nanF x = true) : muF x = -HUGE - 1 := by
  rw [nanF_eq] at h
  unfold muF
  cases ex : Ieee.double.read x <;> rw [ex] at h <;> first | (cases h; done) | rfl
theorem mu_num {x : Nat} (h : nanF x = false) : -HUGE ≤ muF x := by
  rw [nanF_eq] at h
  have hp := huge_pos
  unfold muF
  cases ex : Ieee.double.read x with
  | nan s t => rw [ex] at h; cases h
  | infinity s =>
    cases s
    · show -HUGE ≤ HUGE; exact Int.le_of_lt huge_np
    · show -HUGE ≤ -HUGE; exact Int.le_refl _
  | number s m e =>
    obtain ⟨_, a2, a3⟩ := read_num ex
    exact Int.le_of_lt (signed_lt s m _ a2 a3).1
/-- The order over floats is that of what they stand for. -/
theorem ltFl_mu (x y : Nat) : ltFl x y = decide (muF x < muF y) := by
  unfold ltFl
  cases hx : nanF x with
  | true =>
    have e1 := mu_nan hx
    have e3 : ordF x y = none := order_nan (Or.inl (by rw [← nanF_eq]; exact hx))
    rw [e3, e1]
    cases hy : nanF y with
    | true => rw [mu_nan hy]; simp
    | false =>
      have := mu_num hy
      generalize HUGE = h at *
      simp
      omega
  | false =>
    cases hy : nanF y with
    | true =>
      have e3 : ordF x y = none := order_nan (Or.inr (by rw [← nanF_eq]; exact hy))
      have := mu_num hx
      rw [e3, mu_nan hy]
      generalize HUGE = h at *
      simp
      omega
    | false =>
      rw [order_mu (by rw [← nanF_eq]; exact hx) (by rw [← nanF_eq]; exact hy)]
      by_cases h : muF x < muF y
      · rw [cmp_is_lt h, decide_eq_true h]; rfl
      · rw [decide_eq_false h]
        have : ¬ compare (muF x) (muF y) = .lt := fun e => h ((cmp_lt _ _).1 e)
        simp [this]
theorem eqFl_mu {x y : Nat} (hx : nanF x = false) (hy : nanF y = false) : (ordF x y == some .eq) = decide (muF x = muF y) := by
  rw [order_mu (by rw [← nanF_eq]; exact hx) (by rw [← nanF_eq]; exact hy)]
  by_cases h : muF x = muF y
  · rw [(cmp_eq _ _).2 h, decide_eq_true h]; rfl
  · rw [decide_eq_false h]
    have : ¬ compare (muF x) (muF y) = .eq := fun e => h ((cmp_eq _ _).1 e)
    simp [this]
theorem swo_ltFl : SWO ltFl where
  irrefl x := by rw [ltFl_mu]; simp
  trans x y z h1 h2 := by rw [ltFl_mu, decide_eq_true_eq] at *; omega
  ntrans x y z h1 h2 := by rw [ltFl_mu, decide_eq_false_iff_not] at *; omega
end Go.Proofs.Ytglgmkikegbchaa
