/- spec.Put: a list with another part from a place on. -/
import Derived.Test.YtglgmkikegbchaaGreatCopy2
import Derived.Laws.AppendOwnNone
namespace Go.Proofs.YtglgmkikegbchaaGreat
open Go.RowKit Go.Sort

/-- A list with another part from a place on. -/
def putL (l : List It) (A : Nat) (e : List It) : List It := l.take A ++ (e ++ l.drop (A + e.length))
theorem splice_put (l e : List It) (A : Nat) (z : List Value) (h : A + e.length ≤ l.length) : splice (cells2 l ++ z) (A * 2) (cells2 e) = cells2 (putL l A e) ++ z := by
  unfold splice putL
  have h1 : A * 2 ≤ (cells2 l).length := by rw [cells2_length]; omega
  have h2 : A * 2 + (cells2 e).length = (A + e.length) * 2 := by rw [cells2_length]; omega
  have h3 : (A + e.length) * 2 ≤ (cells2 l).length := by rw [cells2_length]; omega
  rw [List.take_append_of_le_length h1, h2, List.drop_append_of_le_length h3, cells2_take, cells2_drop, cells2_append, cells2_append]
  simp
theorem length_putL (l e : List It) (A : Nat) (h : A + e.length ≤ l.length) : (putL l A e).length = l.length := by simp [putL]; omega

theorem rd2_row {w : World} {g : Nat} {l : List It} {z : List Value} {t : TypeId} (h : w.heap[g]? = some (.cells (cells2 l ++ z).toArray t (0, 0))) : Rd2 w (some ⟨g, 0, none⟩) l.toArray := fun h0 => by
  have hg : g < w.heap.size := by
    rcases Nat.lt_or_ge g w.heap.size with h' | h'
    · exact h'
    · rw [Array.getElem?_eq_none h'] at h; cases h
  refine ⟨g, 0, rfl, hg, fun i hi => ?_⟩
  have hi' : i < l.length := by simpa using hi
  have c : ∀ k u, (cells2 l)[k]? = some u → w.cell? ⟨g, 0 + k, none⟩ = some u := fun k u hu => by
    have hk := (List.getElem?_eq_some_iff.1 hu).1
    simp only [World.cell?, h, Nat.zero_add]
    simp only [List.getElem?_toArray]
    rw [List.getElem?_append_left hk]
    exact hu
  exact ⟨by have := c _ _ (cells2_fst l i hi'); simpa using this, by have := c _ _ (cells2_snd l i hi'); simpa [Nat.add_assoc] using this⟩

set_option maxHeartbeats 2000000 in
set_option maxRecDepth 1000000 in
theorem put_calls (a ea : Option Addr) (cap n A m ecap : Nat) (d e : Array It) (w : World) (h : Rd2 w a d) (hn : d.size = n) (hnil : a = none → cap = 0) (hsz : n ≤ 2000) (he : Rd2 w ea e) (hm : e.size = m) (hA : A + m ≤ n) :
    Calls Tryz.prog 50 #[.slice a n cap, .int .i64 A, .slice ea m ecap] w fun ev w' => ∃ ra rcap, ev = .returned (.slice ra n rcap) ∧ Rd2 w' ra (putL d.toList A e.toList).toArray ∧ Below w.heap.size w w' := by
  obtain ⟨i0, hi, hz0, hz1, hz2⟩ := info_parts (show (Tryz.prog.info? 49).map (fun i => (i.zero, i.size, i.bytes)) = some (some (.agg #[.int .i64 0, .int .i64 0]), 2, 16) by kernel_rfl)
  have hs2 : (Tryz.prog.info? 49).map (·.size) = some 2 := by rw [hi]; simp [hz1]
  -- the copy of the list
  have hown0 : w.ownsRow w.heap.size 49 2 (.slice none 0 0) 0 [] := World.ownsRow_nil _ _ _ _
  have H : Aside (Rd2 w a d ∧ d.size = n ∧ Rd2 w ea e ∧ e.size = m) := ⟨h, hn, he, hm⟩
  have hI : Aside (Tryz.prog.info? 49 = some i0 ∧ i0.zero = some (.agg #[.int .i64 0, .int .i64 0]) ∧ i0.size = 2 ∧ i0.bytes = 16) := ⟨hi, hz0, hz1, hz2⟩
  have hS2 : Aside _ := hs2
  clear hi hz0 hz1 hz2 hs2
  have first : ∀ (Q : Exit → Act → World → Prop) (ops : Array Oper) (rest : List Oper) (o : Oper) (act : Act) (s x : Operand), o.guard = none → o.op = .call { callee := .builtin .append, args := #[s, x], argTypes := #[22, 22] } → act.eval s = .slice none 0 0 → act.eval x = .slice a n cap →
      (∀ v w', Aside (w'.ownsRow w.heap.size 49 2 v n (cells2 d.toList) ∧ Below w.heap.size w w') → wpList Tryz.prog ops Q rest (act.put o.dst v) w') → wpList Tryz.prog ops Q (o :: rest) act w := by
    intro Q ops rest o act s x hg ho hs hx hK
    obtain ⟨h, hn, _, _⟩ := H.out
    obtain ⟨hi, hz0, hz1, hz2⟩ := hI.out
    cases a with
    | none =>
      obtain rfl := hnil rfl
      have h0 : n = 0 := by
        rcases Nat.eq_zero_or_pos d.size with h0 | h0
        · omega
        · obtain ⟨_, _, e', _⟩ := h h0; cases e'
      subst h0
      have ed : d.toList = [] := List.eq_nil_of_length_eq_zero (by simpa using hn)
      refine wpList_append_own_none hg s x _ ho w.heap.size 49 i0 2 Tryz.underlying22 hi _ 0 [] hs hown0 hx (hK _ _ ⟨?_, Below.refl _ _⟩)
      rw [ed]; exact hown0
    | some ad =>
      have hsrc := h.src (P := Tryz.prog) Tryz.underlying22 cap
      refine wpList_append_own w hg s x _ ho w.heap.size 49 i0 (.agg #[.int .i64 0, .int .i64 0]) 2 16 Tryz.underlying22 hi hz0 hz1 hz2 rfl (by decide) _ 0 [] hs hown0 ad n cap (cells2 d.toList) hx (by rw [cells2_length]; simp [hn]) (fun j u hu => ?_) (cells2_one _) (by unfold maxLen; omega) (by omega) (Nat.le_refl _) (fun v' w' h1 h2 _ => hK v' w' ⟨?_, ?_⟩)
      · obtain ⟨i, hi, hu⟩ := cells2_all _ _ _ hu
        have hi' : i < d.size := by simpa using hi
        obtain ⟨blk, off, e', _, hc⟩ := h (by omega)
        cases e'
        rcases hu with ⟨rfl, rfl⟩ | ⟨rfl, rfl⟩
        · rw [Addr.add_lit, toList_get!]; exact (hc i hi').1
        · rw [Addr.add_lit, toList_get!, ← Nat.add_assoc]; exact (hc i hi').2
      · rw [Nat.zero_add, List.nil_append] at h1; exact h1
      · exact own_grown hown0 (Below.refl _ _) (Nat.le_refl _) h2
  go_enter Tryz.func50, Tryz.ntmps50
  go_upto_region 2 with (at_builtin; refine first _ _ _ _ _ _ _ rfl rfl rfl rfl ?_; intro v w1 HO)
  clear first
  have hlp : (putL d.toList A e.toList).length = n := by
    obtain ⟨_, hn, _, hm⟩ := H.out
    rw [length_putL _ _ _ (by rw [Array.length_toList, Array.length_toList]; omega), Array.length_toList]; exact hn
  have HL : Aside _ := hlp
  clear hlp
  obtain ⟨⟨hl, hv⟩, hB⟩ := HO.out
  rcases hv with ⟨rfl, h0⟩ | ⟨g, rcap, cur, rfl, hgb, hg, hnc, hcm, hcs, ht⟩
  · subst h0
    obtain rfl : A = 0 := by omega
    obtain rfl : m = 0 := by omega
    have hc := fun (w' : World) => run_copy2_none (P := Tryz.prog) w' 22 22 3 49 none ea 0 0 0 ecap Tryz.underlying22 hS2.out rfl
    have hB' : Aside _ := hB
    clear hl HO hB
    go_wp2_with fail
    go_ret
    exact ⟨none, 0, rfl, fun h0 => by have h1 := HL.out; rw [List.size_toArray] at h0; omega, hB'.out⟩
  · obtain ⟨_, hn, he, hm⟩ := H.out
    have hcur : cur.toList = cells2 d.toList ++ cur.toList.drop (n * 2) := by rw [← ht, List.take_append_drop]
    have hcl : cur.toList.length = rcap * 2 := by simpa using hcs
    obtain ⟨w2, hr, CT⟩ := run_copy2 (P := Tryz.prog) w1 22 22 3 49 (if rcap = A then some ⟨g, 0, none⟩ else some ⟨g, A * 2, none⟩) ea (n - A) (rcap - A) m ecap g (A * 2) cur.toList 49 (cells2 e.toList)
      Tryz.underlying22 hS2.out (by simpa using hg) (by rw [cells2_length, Array.length_toList, hm, show Nat.min m (n - A) = m from Nat.min_eq_left (by omega)]) (fun h0 => by
        rw [cells2_length, Array.length_toList] at h0
        refine ⟨if_neg (by omega), ?_⟩
        obtain ⟨blk, off, rfl, hb, hc⟩ := (he.keep hB) (by omega)
        refine ⟨_, rfl, fun j u hu => ?_⟩
        obtain ⟨i, hi, hu⟩ := cells2_all _ _ _ hu
        have hi' : i < e.size := by simpa using hi
        rcases hu with ⟨rfl, rfl⟩ | ⟨rfl, rfl⟩
        · rw [Addr.add_lit, toList_get!]; exact (hc i hi').1
        · rw [Addr.add_lit, toList_get!, ← Nat.add_assoc]; exact (hc i hi').2) (by rw [cells2_length, Array.length_toList, hcl]; omega) (cells2_one _)
    have hrow := CT.row
    rw [hcur, splice_put _ _ _ _ (by rw [Array.length_toList, Array.length_toList]; omega)] at hrow
    have R : Aside _ := rd2_row hrow
    have B2 : Aside _ := CT.below _ _ hB hgb
    have hA1 : (A : Int) ≤ (rcap : Int) := by omega
    have hA2 : (A : Int) ≤ (n : Int) := by omega
    clear hl ht hcs hg hcm hcur hcl hrow CT hB HO hn he hm hgb
    go_wp2_with fail
    all_goals
      go_ret
      exact ⟨some ⟨g, 0, none⟩, ⟨_, rfl⟩, R.out, B2.out⟩
end Go.Proofs.YtglgmkikegbchaaGreat
