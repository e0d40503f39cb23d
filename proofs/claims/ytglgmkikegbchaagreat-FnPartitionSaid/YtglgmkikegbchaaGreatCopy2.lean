/- copy(dst, src) over elements of two cells, into a row that is known whole; src may lie in it. -/
import Derived.Test.YtglgmkikegbchaaGreatOwn2
import Derived.Laws.CopyOwn
import Derived.Laws.CopyRow
namespace Go.Proofs.YtglgmkikegbchaaGreat
open Go.RowKit Go.Sort

theorem run_copy2_row {P : Program} (w : World) (dT sT ty elem : TypeId) (g o dLen dCap : Nat) (a : Addr) (sLen sCap : Nat) (cur : Array Value) (t : TypeId) (cs : List Value)
    (hu : P.underlying dT = some (.slice elem)) (hs : (P.info? elem).map (·.size) = some 2)
    (hg : w.heap[g]? = some (.cells cur t (0, 0))) (hn : cs.length = Nat.min sLen dLen * 2)
    (hsrc : ∀ j v, cs[j]? = some v → w.cell? (a.add j) = some v) (hfit : o + cs.length ≤ cur.size) (h1 : ∀ v ∈ cs, v.oneCell' = true) :
    (Builtin.copy_ #[dT, sT] ty #[.slice (some ⟨g, o, none⟩) dLen dCap, .slice (some a) sLen sCap]).run P w =
      .ok (goInt (Nat.min sLen dLen)) (w.setRow g (cur.toList.take o ++ cs ++ cur.toList.drop (o + cs.length)).toArray) := by
  have hl := run_loadCells_list (P := P) w a cs hsrc
  have hst := run_storeCells_at P g o t cs 0 cur w hg (by simpa using hfit) h1
  cases hq : P.info? elem with
  | none => simp [hq] at hs
  | some i =>
    have hi : i.size = 2 := by simpa [hq] using hs
    simp [Builtin.copy_, run_underlying hu, Builtin.lenOf, Builtin.firstCells, sizeOf, typeInfo, hq, hi, ← hn, hl, hst]

theorem run_copy2_none {P : Program} (w : World) (dT sT ty elem : TypeId) (d a : Option Addr) (dLen dCap sLen sCap : Nat) (hu : P.underlying dT = some (.slice elem)) (hs : (P.info? elem).map (·.size) = some 2) (hn : Nat.min sLen dLen = 0) :
    (Builtin.copy_ #[dT, sT] ty #[.slice d dLen dCap, .slice a sLen sCap]).run P w = .ok (goInt 0) w := by
  cases hq : P.info? elem with
  | none => simp [hq] at hs
  | some i =>
    have hl : ∀ (x : Addr), (loadCells x 0).run P w = .ok #[] w := fun x => by simpa using run_loadCells_list (P := P) w x [] (by simp)
    cases d <;> cases a <;> simp [Builtin.copy_, run_underlying hu, Builtin.lenOf, Builtin.firstCells, sizeOf, typeInfo, hq, hn, storeCells, hl]

/-- What a copy leaves. -/
structure CopyTo (w w' : World) (g : Nat) (cur : List Value) (off : Nat) (cs : List Value) (t : TypeId) : Prop where
  row : w'.heap[g]? = some (.cells (splice cur off cs).toArray t (0, 0))
  below : ∀ B w0, Below B w0 w → B ≤ g → Below B w0 w'
  other : ∀ k, k ≠ g → w'.heap[k]? = w.heap[k]?
  size : w'.heap.size = w.heap.size

theorem run_copy2 {P : Program} (w : World) (dT sT ty elem : TypeId) (dp sp : Option Addr) (dLen dCap sLen sCap g off : Nat) (cur : List Value) (t : TypeId) (cs : List Value)
    (hu : P.underlying dT = some (.slice elem)) (hs : (P.info? elem).map (·.size) = some 2)
    (hg : w.heap[g]? = some (.cells cur.toArray t (0, 0))) (hn : cs.length = Nat.min sLen dLen * 2)
    (hpos : 0 < cs.length → dp = some ⟨g, off, none⟩ ∧ ∃ ad, sp = some ad ∧ ∀ j v, cs[j]? = some v → w.cell? (ad.add j) = some v)
    (hfit : off + cs.length ≤ cur.length) (h1 : ∀ v ∈ cs, v.oneCell' = true) :
    ∃ w', (Builtin.copy_ #[dT, sT] ty #[.slice dp dLen dCap, .slice sp sLen sCap]).run P w = .ok (goInt (Nat.min sLen dLen)) w' ∧ CopyTo w w' g cur off cs t := by
  by_cases h0 : 0 < cs.length
  · obtain ⟨rfl, ad, rfl, hc⟩ := hpos h0
    refine ⟨_, run_copy2_row w dT sT ty elem g off dLen dCap ad sLen sCap cur.toArray t cs hu hs hg hn hc (by simpa using hfit) h1, ?_, fun B w0 hb hB => below_setRow hb hB _, fun k hk => ?_, by simp [World.setRow]⟩
    · rw [setRow_heap w g _ _ t _ hg]
      simp [splice]
    · exact setRow_other w g k _ hk
  · have e : cs = [] := List.eq_nil_of_length_eq_zero (by omega)
    subst e
    have hm : Nat.min sLen dLen = 0 := by simp at hn; omega
    refine ⟨w, by rw [hm]; simpa using run_copy2_none (P := P) w dT sT ty elem dp sp dLen dCap sLen sCap hu hs hm, ?_, fun _ _ hb _ => hb, fun _ _ => rfl, rfl⟩
    rw [hg]; simp [splice]

/-- A copy whose run is known, met in the walk. -/
theorem wpList_copy_eq {P : Program} {ops : Array Oper} {rest : List Oper} {o : Oper} {a : Act} {Q : Exit → Act → World → Prop} {w : World} (hgd : o.guard = none) (d s : Operand) (dT sT : TypeId)
    (ho : o.op = .call { callee := .builtin .copy, args := #[d, s], argTypes := #[dT, sT] }) (dv sv v : Value) (w' : World) (hd : a.eval d = dv) (hs : a.eval s = sv)
    (hr : (Builtin.copy_ #[dT, sT] o.type #[dv, sv]).run P w = .ok v w') (h : wpList P ops Q rest (a.put o.dst v) w') : wpList P ops Q (o :: rest) a w :=
  wpList_plain hgd fun _ hK => by
    unfold Oper.wp execOp
    simp only [ho, resolve, invoke, builtin, Sem.run_bind, Sem.run_pure, Result.andThen_ok, List.map_toArray, List.map_cons, List.map_nil, hd, hs, hr]
    exact hK _ _ h
theorem cells2_take : ∀ (l : List It) (k : Nat), (cells2 l).take (k * 2) = cells2 (l.take k)
  | [], k => by simp [cells2]
  | x :: l, 0 => by simp [cells2]
  | x :: l, k + 1 => by rw [show (k + 1) * 2 = k * 2 + 1 + 1 by omega]; simp [cells2, cells2_take l k]
theorem cells2_drop : ∀ (l : List It) (k : Nat), (cells2 l).drop (k * 2) = cells2 (l.drop k)
  | [], k => by simp [cells2]
  | x :: l, 0 => by simp [cells2]
  | x :: l, k + 1 => by rw [show (k + 1) * 2 = k * 2 + 1 + 1 by omega]; simp [cells2, cells2_drop l k]
end Go.Proofs.YtglgmkikegbchaaGreat
