/- What spec.parted is of (printed by gen/parted.py). -/
import Derived.Test.YtglgmkikegbchaaGreatzRdy2
import Derived.Test.YtglgmkikegbchaaGreatzPut
import Derived.Test.YtglgmkikegbchaaGreatKa
import Derived.Test.YtglgmkikegbchaaGreatzPerm
import Derived.Test.YtglgmkikegbchaaGreatzMiddle
import Derived.Test.YtglgmkikegbchaaGreatWhole0
import Derived.BigQuiet
import Derived.BigRegion
namespace Go.Proofs.YtglgmkikegbchaaGreat
open Go.RowKit Go.Sort

theorem holds2_row {w : World} {g : Nat} {l : List It} {z : List Value} {t : TypeId} (h : w.heap[g]? = some (.cells (cells2 l ++ z).toArray t (0, 0))) : Holds2 w g 0 l.toArray := fun i hi => by
  have hi' : i < l.length := by simpa using hi
  have c : ∀ k u, (cells2 l)[k]? = some u → w.cell? ⟨g, 0 + k, none⟩ = some u := fun k u hu => by
    have hk := (List.getElem?_eq_some_iff.1 hu).1
    simp only [World.cell?, h, Nat.zero_add]
    simp only [List.getElem?_toArray]
    rw [List.getElem?_append_left hk]
    exact hu
  have f : ∀ k, w.frozen? ⟨g, k, none⟩ = false := fun k => by
    simp only [World.frozen?, h]
    simp
  exact ⟨by have := c _ _ (cells2_fst l i hi'); simpa using this, by have := c _ _ (cells2_snd l i hi'); simpa [Nat.add_assoc] using this, f _, f _⟩

/-- A list that is not nil, put behind nil: a copy of it in a row of its own. -/
theorem first_copy (blk off n cap : Nat) (d : Array It) (w0 w : World) (h : Rd2 w (some ⟨blk, off, none⟩) d) (hn : d.size = n) (h0 : 0 < n) (hsz : n ≤ 2000) (hb : Below w0.heap.size w0 w) :
    ∀ (Q : Exit → Act → World → Prop) (ops : Array Oper) (rest : List Oper) (o : Oper) (act : Act) (s x : Operand), o.guard = none → o.op = .call { callee := .builtin .append, args := #[s, x], argTypes := #[22, 22] } → act.eval s = .slice none 0 0 → act.eval x = .slice (some ⟨blk, off, none⟩) n cap →
      (∀ g rcap w', Aside (w0.heap.size ≤ g ∧ n ≤ rcap ∧ St2 w' g 0 d w' ∧ Below w0.heap.size w0 w') → wpList Tryz.prog ops Q rest (act.put o.dst (.slice (some ⟨g, 0, none⟩) n rcap)) w') → wpList Tryz.prog ops Q (o :: rest) act w := by
  intro Q ops rest o act s x hg ho hs hx hK
  obtain ⟨i0, hi, hz0, hz1, hz2⟩ := info_parts (show (Tryz.prog.info? 49).map (fun i => (i.zero, i.size, i.bytes)) = some (some (.agg #[.int .i64 0, .int .i64 0]), 2, 16) by kernel_rfl)
  have hown0 : w.ownsRow w0.heap.size 49 2 (.slice none 0 0) 0 [] := World.ownsRow_nil _ _ _ _
  refine wpList_append_own w hg s x _ ho w0.heap.size 49 i0 (.agg #[.int .i64 0, .int .i64 0]) 2 16 Tryz.underlying22 hi hz0 hz1 hz2 rfl (by decide) _ 0 [] hs hown0 ⟨blk, off, none⟩ n cap (cells2 d.toList) hx (by rw [cells2_length]; simp [hn]) (fun j u hu => ?_) (cells2_one _) (by unfold maxLen; omega) (by omega) hb.size (fun v' w' h1 h2 _ => ?_)
  · obtain ⟨i, hi, hu⟩ := cells2_all _ _ _ hu
    have hi' : i < d.size := by simpa using hi
    obtain ⟨blk, off, e', _, hc⟩ := h (by omega)
    cases e'
    rcases hu with ⟨rfl, rfl⟩ | ⟨rfl, rfl⟩
    · rw [Addr.add_lit, toList_get!]; exact (hc i hi').1
    · rw [Addr.add_lit, toList_get!, ← Nat.add_assoc]; exact (hc i hi').2
  · rw [Nat.zero_add, List.nil_append] at h1
    have hB := own_grown hown0 hb (Nat.le_refl _) h2
    obtain ⟨hl, hv⟩ := h1
    rcases hv with ⟨rfl, h0'⟩ | ⟨g, rcap, cur, rfl, hgb, hgc, hnc, hcm, hcs, ht⟩
    · omega
    · have hcur : cur.toList = cells2 d.toList ++ cur.toList.drop (n * 2) := by rw [← ht, List.take_append_drop]
      have hrow : w'.heap[g]? = some (.cells (cells2 d.toList ++ cur.toList.drop (n * 2)).toArray 49 (0, 0)) := by rw [← hcur]; simpa using hgc
      have hlt : g < w'.heap.size := by
        rcases Nat.lt_or_ge g w'.heap.size with h' | h'
        · exact h'
        · rw [Array.getElem?_eq_none h'] at hgc; cases hgc
      exact hK g rcap w' ⟨hgb, hnc, ⟨by have := holds2_row hrow; simpa using this, hlt, World.grownBy.refl _ _⟩, hB⟩

theorem St2.keep {w0 w w' : World} {blk off : Nat} {d : Array It} (h : St2 w0 blk off d w) (hb : Below w.heap.size w w') : St2 w0 blk off d w' :=
  ⟨fun i hi => by
    rw [hb.cell (p := ⟨blk, off + i * 2, none⟩) h.lt, hb.cell (p := ⟨blk, off + i * 2 + 1, none⟩) h.lt, hb.frozen (p := ⟨blk, off + i * 2, none⟩) h.lt, hb.frozen (p := ⟨blk, off + i * 2 + 1, none⟩) h.lt]
    exact h.holds i hi, Nat.lt_of_lt_of_le h.lt hb.size, ⟨hb.os.trans h.grown.os, hb.tape.trans h.grown.tape, hb.output.trans h.grown.output, Nat.le_trans h.grown.size hb.size, fun k hk hr => (hb.block k (Nat.lt_of_lt_of_le hk h.grown.size)).trans (h.grown.block k hk hr)⟩⟩
end Go.Proofs.YtglgmkikegbchaaGreat
