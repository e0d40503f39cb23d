/- Numbers by their bits: floats, integers; the less and the greater of two floats (printed by gen/ends.py). -/
import Derived.Test.YtglgmkikegbchaaaFl
import Derived.Test.YtglgmkikegbchaaBase
import Derived.Test.YtglgmkikegbchaaOwn2
import Derived.Laws.Externs
import Derived.OwnWalk
import Derived.WalkSpells
import Derived.WalkLawsBesides
namespace Go.Proofs.Ytglgmkikegbchaa
open Go.RowKit Go.Sort

abbrev eFl : Nat → Value := fun b => Value.float .f64 b
abbrev eI : Int → Value := fun x => Value.int .i64 x
theorem frombits_run (x : Nat) (W : World) : (callFunc 56 #[.int .u64 (x : Int)]).run Try.prog W = .ok (.value (.float .f64 x)) W := by kernel_rfl
theorem bits_run (x : Nat) (W : World) : (callFunc 50 #[.float .f64 x]).run Try.prog W = .ok (.value (.int .u64 (x : Int))) W := by kernel_rfl

/-- A slice of words that is read. -/
def RdU (w : World) (a : Option Addr) (d : Array Nat) : Prop := 0 < d.size → ∃ blk off, a = some ⟨blk, off, none⟩ ∧ blk < w.heap.size ∧ ∀ i, i < d.size → w.cell? ⟨blk, off + i, none⟩ = some (.int .u64 (d[i]! : Int))
theorem RdU.keep {w w' : World} {a : Option Addr} {d : Array Nat} (h : RdU w a d) (hb : Below w.heap.size w w') : RdU w' a d := fun h0 => by
  obtain ⟨blk, off, e, hl, hc⟩ := h h0
  exact ⟨blk, off, e, Nat.lt_of_lt_of_le hl hb.size, fun i hi => (hb.cell (p := ⟨blk, off + i, none⟩) hl).trans (hc i hi)⟩

/-- The nan that is told of two of which one is none. -/
theorem nan_cut (x y : Nat) (mx : Bool) (tp : Nat) : nanF ((Question.nanMinMax .f64 mx x y).cut tp) = true := by
  rw [nanF_eq]
  have e : (Question.nanMinMax .f64 mx x y).cut tp = (tp % 2) * 2 ^ 63 + 0x7ff0000000000000 + 1 + (tp / 2) % (2 ^ 52 - 1) := rfl
  rw [e]
  have h1 : tp % 2 < 2 := Nat.mod_lt _ (by decide)
  have h2 : (tp / 2) % (2 ^ 52 - 1) < 2 ^ 52 - 1 := Nat.mod_lt _ (by decide)
  generalize tp % 2 = s at h1
  generalize (tp / 2) % (2 ^ 52 - 1) = r at h2
  have hw : Ieee.double.signWeight = 2 ^ 63 := rfl
  have hb : Ieee.double.binade = 2 ^ 52 := rfl
  have hi : Ieee.double.infRung = 0x7ff0000000000000 := rfl
  have hm : (s * 2 ^ 63 + 0x7ff0000000000000 + 1 + r) % 2 ^ 63 = 0x7ff0000000000000 + 1 + r := by omega
  unfold Ieee.Format.read
  dsimp only
  rw [hw, hm, hb, hi, if_neg (by omega), if_neg (by omega), if_neg (by omega)]
  rfl

/-- The less of two floats (mx: the greater), as told. -/
def MinOf (mx : Bool) (x y z : Nat) : Prop :=
  ((nanF x = true ∨ nanF y = true) → nanF z = true) ∧ (nanF x = false → nanF y = false → nanF z = false ∧ (z = x ∨ z = y) ∧ (if mx then muF x ≤ muF z ∧ muF y ≤ muF z else muF z ≤ muF x ∧ muF z ≤ muF y))

theorem run_min_fl {P : Program} (w : World) (x y : Nat) : ∃ z w', (Builtin.min2 (.float .f64 x) (.float .f64 y)).run P w = .ok (.float .f64 z) w' ∧ MinOf false x y z ∧ (w' = w ∨ w' = w.drew) := by
  by_cases hx : nanF x = true
  · have e : FloatKind.f64.format.order x y = none := order_nan (Or.inl (by rw [← nanF_eq]; exact hx))
    refine ⟨_, w.drew, by simp [Builtin.min2, e, Question.forced]; rfl, ⟨fun _ => nan_cut x y false _, fun h => by rw [hx] at h; cases h⟩, Or.inr rfl⟩
  · by_cases hy : nanF y = true
    · have e : FloatKind.f64.format.order x y = none := order_nan (Or.inr (by rw [← nanF_eq]; exact hy))
      refine ⟨_, w.drew, by simp [Builtin.min2, e, Question.forced]; rfl, ⟨fun _ => nan_cut x y false _, fun _ h => by rw [hy] at h; cases h⟩, Or.inr rfl⟩
    · have hx' : nanF x = false := by simpa using hx
      have hy' : nanF y = false := by simpa using hy
      have e : FloatKind.f64.format.order x y = some (compare (muF x) (muF y)) := order_mu (by rw [← nanF_eq]; exact hx') (by rw [← nanF_eq]; exact hy')
      rcases (show muF x < muF y ∨ muF y < muF x ∨ muF x = muF y by omega) with h | h | h
      · rw [cmp_is_lt h] at e
        exact ⟨x, w, by simp [Builtin.min2, e], ⟨fun h' => by rw [hx', hy'] at h'; simp at h', fun _ _ => ⟨by assumption, by simp, by simp; omega⟩⟩, Or.inl rfl⟩
      · rw [cmp_is_gt h] at e
        exact ⟨y, w, by simp [Builtin.min2, e], ⟨fun h' => by rw [hx', hy'] at h'; simp at h', fun _ _ => ⟨by assumption, by simp, by simp; omega⟩⟩, Or.inl rfl⟩
      · rw [(cmp_eq _ _).2 h] at e
        refine ⟨if (FloatKind.f64.decode x).neg then x else y, w, by simp [Builtin.min2, e], ⟨fun h' => by rw [hx', hy'] at h'; simp at h', fun _ _ => ?_⟩, Or.inl rfl⟩
        split
        · exact ⟨by assumption, by simp, by simp; omega⟩
        · exact ⟨by assumption, by simp, by simp; omega⟩

theorem wpList_min_fl {P : Program} {ops : Array Oper} {rest : List Oper} {o : Oper} {a : Act} {Q : Exit → Act → World → Prop} {w : World} (hgd : o.guard = none) (s x : Operand) (t : Array TypeId)
    (ho : o.op = .call { callee := .builtin .min, args := #[s, x], argTypes := t }) (m y : Nat) (hs : a.eval s = .float .f64 m) (hx : a.eval x = .float .f64 y)
    (hK : ∀ z w', Aside (MinOf false m y z ∧ (w' = w ∨ w' = w.drew)) → wpList P ops Q rest (a.put o.dst (.float .f64 z)) w') : wpList P ops Q (o :: rest) a w := by
  refine wpList_plain hgd fun K hK' => ?_
  obtain ⟨z, w', hrun, r1, r2⟩ := run_min_fl (P := P) w m y
  unfold Oper.wp
  simp [execOp, ho, resolve, invoke, builtin, hs, hx, Builtin.min_, hrun, Result.andThen]
  exact hK' _ _ (hK z w' ⟨r1, r2⟩)

theorem run_max_fl {P : Program} (w : World) (x y : Nat) : ∃ z w', (Builtin.max2 (.float .f64 x) (.float .f64 y)).run P w = .ok (.float .f64 z) w' ∧ MinOf true x y z ∧ (w' = w ∨ w' = w.drew) := by
  by_cases hx : nanF x = true
  · have e : FloatKind.f64.format.order x y = none := order_nan (Or.inl (by rw [← nanF_eq]; exact hx))
    refine ⟨_, w.drew, by simp [Builtin.max2, e, Question.forced]; rfl, ⟨fun _ => nan_cut x y true _, fun h => by rw [hx] at h; cases h⟩, Or.inr rfl⟩
  · by_cases hy : nanF y = true
    · have e : FloatKind.f64.format.order x y = none := order_nan (Or.inr (by rw [← nanF_eq]; exact hy))
      refine ⟨_, w.drew, by simp [Builtin.max2, e, Question.forced]; rfl, ⟨fun _ => nan_cut x y true _, fun _ h => by rw [hy] at h; cases h⟩, Or.inr rfl⟩
    · have hx' : nanF x = false := by simpa using hx
      have hy' : nanF y = false := by simpa using hy
      have e : FloatKind.f64.format.order x y = some (compare (muF x) (muF y)) := order_mu (by rw [← nanF_eq]; exact hx') (by rw [← nanF_eq]; exact hy')
      rcases (show muF x < muF y ∨ muF y < muF x ∨ muF x = muF y by omega) with h | h | h
      · rw [cmp_is_lt h] at e
        exact ⟨y, w, by simp [Builtin.max2, e], ⟨fun h' => by rw [hx', hy'] at h'; simp at h', fun _ _ => ⟨by assumption, by simp, by simp; omega⟩⟩, Or.inl rfl⟩
      · rw [cmp_is_gt h] at e
        exact ⟨x, w, by simp [Builtin.max2, e], ⟨fun h' => by rw [hx', hy'] at h'; simp at h', fun _ _ => ⟨by assumption, by simp, by simp; omega⟩⟩, Or.inl rfl⟩
      · rw [(cmp_eq _ _).2 h] at e
        refine ⟨if (FloatKind.f64.decode x).neg then y else x, w, by simp [Builtin.max2, e], ⟨fun h' => by rw [hx', hy'] at h'; simp at h', fun _ _ => ?_⟩, Or.inl rfl⟩
        split
        · exact ⟨by assumption, by simp, by simp; omega⟩
        · exact ⟨by assumption, by simp, by simp; omega⟩

theorem wpList_max_fl {P : Program} {ops : Array Oper} {rest : List Oper} {o : Oper} {a : Act} {Q : Exit → Act → World → Prop} {w : World} (hgd : o.guard = none) (s x : Operand) (t : Array TypeId)
    (ho : o.op = .call { callee := .builtin .max, args := #[s, x], argTypes := t }) (m y : Nat) (hs : a.eval s = .float .f64 m) (hx : a.eval x = .float .f64 y)
    (hK : ∀ z w', Aside (MinOf true m y z ∧ (w' = w ∨ w' = w.drew)) → wpList P ops Q rest (a.put o.dst (.float .f64 z)) w') : wpList P ops Q (o :: rest) a w := by
  refine wpList_plain hgd fun K hK' => ?_
  obtain ⟨z, w', hrun, r1, r2⟩ := run_max_fl (P := P) w m y
  unfold Oper.wp
  simp [execOp, ho, resolve, invoke, builtin, hs, hx, Builtin.max_, hrun, Result.andThen]
  exact hK' _ _ (hK z w' ⟨r1, r2⟩)
end Go.Proofs.Ytglgmkikegbchaa
