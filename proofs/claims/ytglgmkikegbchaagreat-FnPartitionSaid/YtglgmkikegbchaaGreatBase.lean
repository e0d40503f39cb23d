/- spec.Fits, spec.Is; an order in a box; numbers in a row. -/
import Derived.Test.YtglgmkikegbchaaGreatSame
import Derived.Test.YtglgmkikegbchaaGreatOrd
namespace Go.Proofs.YtglgmkikegbchaaGreat
open Go.RowKit Go.Sort

/-- A slice of numbers that is read. -/
def RdN (w : World) (a : Option Addr) (d : Array Int) : Prop := 0 < d.size → ∃ blk off, a = some ⟨blk, off, none⟩ ∧ blk < w.heap.size ∧ ∀ i, i < d.size → w.cell? ⟨blk, off + i, none⟩ = some (.int .i64 d[i]!)
theorem RdN.below {B : Nat} {w w' : World} {a : Option Addr} {d : Array Int} (h : RdN w a d) (hb : Below B w w') (hB : w.heap.size ≤ B) : RdN w' a d := fun h0 => by
  obtain ⟨blk, off, e, hl, hc⟩ := h h0
  exact ⟨blk, off, e, Nat.lt_of_lt_of_le hl hb.size, fun i hi => (hb.cell (p := ⟨blk, off + i, none⟩) (Nat.lt_of_lt_of_le hl hB)).trans (hc i hi)⟩
/-- The same numbers wherever only new memory has come. -/
theorem RdN.keep {w w' : World} {a : Option Addr} {d : Array Int} (h : RdN w a d) (hb : Below w.heap.size w w') : RdN w' a d := h.below hb (Nat.le_refl _)
theorem Rd2.keep {w w' : World} {a : Option Addr} {d : Array It} (h : Rd2 w a d) (hb : Below w.heap.size w w') : Rd2 w' a d := h.below hb (Nat.le_refl _)
theorem Below.next {w w1 w2 : World} (h : Below w.heap.size w w1) (h2 : Below w1.heap.size w1 w2) : Below w.heap.size w w2 := h.trans (h2.mono h.size)

/-- An order in a box. -/
def BoxO (w : World) (b : Nat) (o : Ordr) : Prop := b < w.heap.size ∧ w.cell? ⟨b, 0, none⟩ = some (.int .i64 o.kind) ∧ w.cell? ⟨b, 1, none⟩ = some (.int .i64 o.shift) ∧ w.cell? ⟨b, 2, none⟩ = some (.int .u64 o.m0) ∧ w.cell? ⟨b, 3, none⟩ = some (.int .u64 o.m1) ∧ w.cell? ⟨b, 4, none⟩ = some (.int .u64 o.m2)
theorem BoxO.keep {w w' : World} {b : Nat} {o : Ordr} (h : BoxO w b o) (hb : Below w.heap.size w w') : BoxO w' b o := by
  obtain ⟨h0, k0, k1, k2, k3, k4⟩ := h
  exact ⟨Nat.lt_of_lt_of_le h0 hb.size, (hb.cell (by exact h0)).trans k0, (hb.cell (by exact h0)).trans k1, (hb.cell (by exact h0)).trans k2, (hb.cell (by exact h0)).trans k3, (hb.cell (by exact h0)).trans k4⟩
theorem boxO_new (w : World) (o : Ordr) (t : TypeId) : BoxO (w.alloc (.cells #[.int .i64 o.kind, .int .i64 o.shift, .int .u64 o.m0, .int .u64 o.m1, .int .u64 o.m2] t)) w.heap.size o := ⟨by simp, by simp [go_sem], by simp [go_sem], by simp [go_sem], by simp [go_sem], by simp [go_sem]⟩
theorem below_alloc (w : World) (x : Obj) : Below w.heap.size w (w.alloc x) := (Below.refl _ w).alloc (Nat.le_refl _) _
theorem below_drewN' {w w' : World} (h : Below w.heap.size w w') (n : Nat) : Below w.heap.size w (w'.drewN n) := below_drewN h n

def fitsB (n : Nat) (o : Ordr) : Bool := decide (n ≤ 2000) && decide (0 ≤ o.kind) && decide (o.kind ≤ 3) && decide (0 ≤ o.shift) && decide (o.shift < 64)

set_option maxHeartbeats 2000000 in
set_option maxRecDepth 1000000 in
theorem fits_calls (a : Option Addr) (cap n : Nat) (o : Ordr) (w : World) : Calls Tryz.prog 23 #[.slice a n cap, vOrd o] w fun e w' => e = .returned (.bool (fitsB n o)) ∧ Below w.heap.size w w' := by
  obtain ⟨k, s, m0, m1, m2⟩ := o
  show Calls _ _ _ _ fun e w' => e = .returned (.bool (decide (n ≤ 2000) && decide (0 ≤ k) && decide (k ≤ 3) && decide (0 ≤ s) && decide (s < 64))) ∧ Below w.heap.size w w'
  have hz : decide (n ≤ 2000) = decide ((n : Int) ≤ 2000) := decide_eq_decide.2 (by omega)
  rw [hz]
  clear hz
  have B := below_alloc w (.cells #[.int .i64 k, .int .i64 s, .int .u64 m0, .int .u64 m1, .int .u64 m2] 26)
  have B' : Aside (Below w.heap.size w (w.alloc (.cells #[.int .i64 k, .int .i64 s, .int .u64 m0, .int .u64 m1, .int .u64 m2] 26))) := B
  clear B
  by_cases h1 : (n : Int) ≤ 2000
  · by_cases h2 : 0 ≤ k
    · by_cases h3 : k ≤ 3
      · by_cases h4 : 0 ≤ s
        · have e1 : decide ((n : Int) ≤ 2000) = true := decide_eq_true h1
          have e2 : decide (0 ≤ k) = true := decide_eq_true h2
          have e3 : decide (k ≤ 3) = true := decide_eq_true h3
          have e4 : decide (0 ≤ s) = true := decide_eq_true h4
          rw [e1, e2, e3, e4]
          go_enter Tryz.func23, Tryz.ntmps23
          go_wp2
          go_ret
          exact ⟨rfl, B'.out⟩
        · have e1 : decide ((n : Int) ≤ 2000) = true := decide_eq_true h1
          have e2 : decide (0 ≤ k) = true := decide_eq_true h2
          have e3 : decide (k ≤ 3) = true := decide_eq_true h3
          have e4 : decide (0 ≤ s) = false := decide_eq_false h4
          rw [e1, e2, e3, e4]
          go_enter Tryz.func23, Tryz.ntmps23
          go_wp2
          go_ret
          exact ⟨rfl, B'.out⟩
      · have e1 : decide ((n : Int) ≤ 2000) = true := decide_eq_true h1
        have e2 : decide (0 ≤ k) = true := decide_eq_true h2
        have e3 : decide (k ≤ 3) = false := decide_eq_false h3
        rw [e1, e2, e3]
        go_enter Tryz.func23, Tryz.ntmps23
        go_wp2
        go_ret
        exact ⟨rfl, B'.out⟩
    · have e1 : decide ((n : Int) ≤ 2000) = true := decide_eq_true h1
      have e2 : decide (0 ≤ k) = false := decide_eq_false h2
      rw [e1, e2]
      go_enter Tryz.func23, Tryz.ntmps23
      go_wp2
      go_ret
      exact ⟨rfl, B'.out⟩
  · have e1 : decide ((n : Int) ≤ 2000) = false := decide_eq_false h1
    rw [e1]
    go_enter Tryz.func23, Tryz.ntmps23
    go_wp2
    go_ret
    exact ⟨rfl, B'.out⟩

theorem is_calls (o : Ordr) (w : World) : Calls Tryz.prog 33 #[vOrd o] w fun e w' => e = .returned (.bool (o.kind != 3)) ∧ Below w.heap.size w w' := by
  obtain ⟨k, s, m0, m1, m2⟩ := o
  have B' : Aside (Below w.heap.size w (w.alloc (.cells #[.int .i64 k, .int .i64 s, .int .u64 m0, .int .u64 m1, .int .u64 m2] 26))) := below_alloc w _
  go_enter Tryz.func33, Tryz.ntmps33
  go_wp2
  go_ret
  exact ⟨rfl, B'.out⟩
end Go.Proofs.YtglgmkikegbchaaGreat
