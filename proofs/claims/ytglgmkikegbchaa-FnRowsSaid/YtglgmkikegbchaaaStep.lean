/- Steps over a row of numbers: what each does, in plain words (no program in sight). -/
import Derived.Lib.Slices
namespace Go.Proofs.Ytglgmkikegbchaa

/-- What stands ahead of the first a, and behind it. -/
def cutAt (a : Int) : List Int → Option (List Int × List Int)
  | [] => none
  | x :: l => if x = a then some ([], l) else (cutAt a l).map fun p => (x :: p.1, p.2)
theorem cutAt_some {a : Int} : ∀ {r l1 l2 : List Int}, cutAt a r = some (l1, l2) → r = l1 ++ a :: l2 ∧ a ∉ l1
  | [], _, _, h => by simp [cutAt] at h
  | x :: l, l1, l2, h => by
    unfold cutAt at h
    by_cases e : x = a
    · rw [if_pos e] at h
      simp only [Option.some.injEq, Prod.mk.injEq] at h
      obtain ⟨rfl, rfl⟩ := h
      simp [e]
    · rw [if_neg e] at h
      cases hc : cutAt a l with
      | none => rw [hc] at h; simp at h
      | some p =>
        obtain ⟨p1, p2⟩ := p
        rw [hc] at h
        simp only [Option.map_some, Option.some.injEq, Prod.mk.injEq] at h
        obtain ⟨rfl, rfl⟩ := h
        obtain ⟨h1, h2⟩ := cutAt_some hc
        exact ⟨by rw [h1]; rfl, by simp; exact ⟨fun h => e h.symm, h2⟩⟩
theorem cutAt_none {a : Int} : ∀ {r : List Int}, cutAt a r = none → a ∉ r
  | [], _ => by simp
  | x :: l, h => by
    unfold cutAt at h
    by_cases e : x = a
    · rw [if_pos e] at h; simp at h
    · rw [if_neg e] at h
      have := cutAt_none (r := l) (a := a) (by simpa using h)
      simp; exact ⟨fun h => e h.symm, this⟩
theorem cutAt_mem {a : Int} {r : List Int} (h : a ∈ r) : ∃ l1 l2, cutAt a r = some (l1, l2) := by
  cases hc : cutAt a r with
  | none => exact absurd h (cutAt_none hc)
  | some p => exact ⟨p.1, p.2, rfl⟩
theorem idxFrom_cut {a : Int} : ∀ {r l1 l2 : List Int} (i : Nat), cutAt a r = some (l1, l2) → Lib.idxFrom r a i = ((i + l1.length : Nat) : Int)
  | [], _, _, _, h => by simp [cutAt] at h
  | x :: l, l1, l2, i, h => by
    unfold cutAt at h
    by_cases e : x = a
    · rw [if_pos e] at h
      simp only [Option.some.injEq, Prod.mk.injEq] at h
      obtain ⟨rfl, rfl⟩ := h
      simp [Lib.idxFrom, e]
    · rw [if_neg e] at h
      cases hc : cutAt a l with
      | none => rw [hc] at h; simp at h
      | some p =>
        obtain ⟨p1, p2⟩ := p
        rw [hc] at h
        simp only [Option.map_some, Option.some.injEq, Prod.mk.injEq] at h
        obtain ⟨rfl, rfl⟩ := h
        simp only [Lib.idxFrom, if_neg e, idxFrom_cut (i + 1) hc, List.length_cons]
        congr 1; omega
theorem idxOf_cut {a : Int} {r l1 l2 : List Int} (h : cutAt a r = some (l1, l2)) : Lib.idxOf r a = (l1.length : Int) := by
  rw [Lib.idxOf, idxFrom_cut 0 h, Nat.zero_add]
theorem idxOf_none {a : Int} {r : List Int} (h : cutAt a r = none) : Lib.idxOf r a = -1 := by
  rw [← List.take_length (l := r)]
  refine Lib.idxOf_miss r r.length a (fun j hj e => cutAt_none h ?_)
  rw [← e]
  simp [List.getD, hj]

/-- A step: its kind, its two numbers. -/
structure Stp where
  k : Int
  a : Int
  b : Int
instance : Inhabited Stp := ⟨⟨0, 0, 0⟩⟩

/-- The row behind a step, and whether an element came to be. -/
def rowP (r : List Int) (m : Int) (s : Stp) : List Int × Bool :=
  if s.k = 0 then (m :: r, true)
  else if s.k = 1 then (r ++ [m], true)
  else if s.k = 9 then ([], false)
  else match cutAt s.a r with
    | none => (r, false)
    | some (l1, l2) =>
      if s.k = 2 then (l1 ++ m :: s.a :: l2, true)
      else if s.k = 3 then (l1 ++ s.a :: m :: l2, true)
      else if s.k = 4 then (l1 ++ l2, false)
      else if s.k = 5 then (s.a :: (l1 ++ l2), false)
      else if s.k = 6 then (l1 ++ l2 ++ [s.a], false)
      else if s.a = s.b then (r, false)
      else match cutAt s.b (l1 ++ l2) with
        | none => (r, false)
        | some (m1, m2) => if s.k = 8 then (m1 ++ s.b :: s.a :: m2, false) else (m1 ++ s.a :: s.b :: m2, false)
def madeP (r : List Int) (m : Int) (s : Stp) : Int := if (rowP r m s).2 then m + 1 else m

/-- The row, how many were made, the first that counts. -/
structure RSt where
  r : List Int
  m : Int
  f : Int
def stepP (x : RSt) (s : Stp) : RSt := ⟨(rowP x.r x.m s).1, madeP x.r x.m s, if s.k = 9 then x.m else x.f⟩
/-- A step that the reference speaks of. -/
def okP (x : RSt) (s : Stp) : Prop := (0 ≤ s.k ∧ s.k < 10) ∧ (2 ≤ s.k → s.k ≤ 8 → x.f ≤ s.a ∧ s.a < x.m) ∧ (7 ≤ s.k → s.k ≤ 8 → x.f ≤ s.b ∧ s.b < x.m)
def stP (d : Array Stp) : Nat → RSt
  | 0 => ⟨[], 0, 0⟩
  | i + 1 => stepP (stP d i) d[i]!
def rowsP (d : Array Stp) (i : Nat) : List (List Int) := (List.range i).map fun j => (stP d (j + 1)).r
theorem rowsP_succ (d : Array Stp) (i : Nat) : rowsP d (i + 1) = rowsP d i ++ [(stP d (i + 1)).r] := by
  simp [rowsP, List.range_succ]
theorem rowsP_length (d : Array Stp) (i : Nat) : (rowsP d i).length = i := by simp [rowsP]

theorem rowP_len (r : List Int) (m : Int) (s : Stp) : (rowP r m s).1.length ≤ r.length + 1 := by
  unfold rowP
  split
  · simp
  split
  · simp
  split
  · simp
  cases hc : cutAt s.a r with
  | none => simp
  | some p =>
    obtain ⟨l1, l2⟩ := p
    have h1 := congrArg List.length (cutAt_some hc).1
    simp only [List.length_append, List.length_cons] at h1
    dsimp only
    split
    · simp; omega
    split
    · simp; omega
    split
    · simp; omega
    split
    · simp; omega
    split
    · simp; omega
    split
    · simp
    cases hb : cutAt s.b (l1 ++ l2) with
    | none => simp
    | some q =>
      obtain ⟨m1, m2⟩ := q
      have h2 := congrArg List.length (cutAt_some hb).1
      simp only [List.length_append, List.length_cons] at h2
      dsimp only
      split
      · simp; omega
      · simp; omega
theorem madeP_le (r : List Int) (m : Int) (s : Stp) : m ≤ madeP r m s ∧ madeP r m s ≤ m + 1 := by
  unfold madeP; split <;> omega
theorem stP_bounds (d : Array Stp) : ∀ i, (stP d i).r.length ≤ i ∧ 0 ≤ (stP d i).f ∧ (stP d i).f ≤ (stP d i).m ∧ (stP d i).m ≤ i
  | 0 => by simp [stP]
  | i + 1 => by
    obtain ⟨h1, h2, h3, h4⟩ := stP_bounds d i
    have k1 := rowP_len (stP d i).r (stP d i).m d[i]!
    have k2 := madeP_le (stP d i).r (stP d i).m d[i]!
    simp only [stP, stepP]
    refine ⟨by omega, by split <;> omega, by split <;> omega, by omega⟩
end Go.Proofs.Ytglgmkikegbchaa
