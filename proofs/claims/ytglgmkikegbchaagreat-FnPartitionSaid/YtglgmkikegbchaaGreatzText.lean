/- spec.Untagged, spec.Text. -/
import Derived.Test.YtglgmkikegbchaaGreatOwn2
namespace Go.Proofs.YtglgmkikegbchaaGreat
open Go.RowKit Go.Sort

def untag (l : List It) : List It := l.map fun x => (x.1, 0)
theorem untag_take {d : Array It} {i : Nat} (hi : i < d.size) : untag (d.toList.take (i + 1)) = untag (d.toList.take i) ++ [(d[i]!.1, 0)] := by
  unfold untag
  rw [List.take_succ_eq_append_getElem (by simpa using hi), List.map_append]
  simp [getElem!_pos d i hi]

set_option maxHeartbeats 2000000 in
set_option maxRecDepth 1000000 in
theorem untagged_calls (a : Option Addr) (cap n : Nat) (d : Array It) (w : World) (h : Rd2 w a d) (hn : d.size = n) (hsz : n ≤ 2000) :
    Calls Tryz.prog 32 #[.slice a n cap] w fun e w' => ∃ a' cap', e = .returned (.slice a' n cap') ∧ Rd2 w' a' (untag d.toList).toArray ∧ Below w.heap.size w w' := by
  obtain ⟨i0, hi, hz0, hz1, hz2⟩ := info_parts (show (Tryz.prog.info? 49).map (fun i => (i.zero, i.size, i.bytes)) = some (some (.agg #[.int .i64 0, .int .i64 0]), 2, 16) by kernel_rfl)
  have hI : Aside (Tryz.prog.info? 49 = some i0 ∧ i0.zero = some (.agg #[.int .i64 0, .int .i64 0]) ∧ i0.size = 2 ∧ i0.bytes = 16) := ⟨hi, hz0, hz1, hz2⟩
  have H : Aside (Rd2 w a d) := h
  have N : Aside (d.size = n) := hn
  clear h hn hi hz0 hz1 hz2
  go_enter Tryz.func32, Tryz.ntmps32
  go_wp2_with fail
  go_loopg [3, 8] n (fun g vo vi wr => ∃ i : Nat, vi = .int .i64 i ∧ i ≤ n ∧ n - i ≤ g ∧ Aside (wr.ownsRow w.heap.size 49 2 vo i (cells2 (untag (d.toList.take i))) ∧ Below w.heap.size w wr))
  case atStart => exact ⟨0, rfl, Nat.zero_le _, by omega, World.ownsRow_nil _ _ _ _, Below.refl _ _⟩
  case round =>
    obtain ⟨i, rfl, hin, hg, HO⟩ := hrel
    by_cases hlt : i < n
    · have hltz : (i : Int) < (n : Int) := by omega
      obtain ⟨blk, off, rfl, hbl, hc⟩ := H.out (by rw [N.out]; omega)
      obtain ⟨⟨x1, x2⟩, hx⟩ : ∃ x : It, x = d[i]! := ⟨_, rfl⟩
      obtain ⟨c1, c2⟩ := hc i (by rw [N.out]; omega)
      rw [← hx] at c1 c2
      dsimp only at c1 c2
      have q1 := (HO.out.2.cell (p := ⟨blk, off + i * 2, none⟩) hbl).trans c1
      have q2 := (HO.out.2.cell (p := ⟨blk, off + i * 2 + 1, none⟩) hbl).trans c2
      have X : Aside (x1 = d[i]!.1) := by show x1 = _; rw [← hx]
      have O2 : Aside (((wr.alloc (.cells #[.int .i64 x1, .int .i64 x2] 49)).alloc (.cells #[.int .i64 x1, .int .i64 0] 49)).ownsRow w.heap.size 49 2 u3 i (cells2 (untag (d.toList.take i)))) := own_below (own_below HO.out.1 (below_alloc _ _)) (below_alloc _ _)
      have B2 : Aside (Below w.heap.size w ((wr.alloc (.cells #[.int .i64 x1, .int .i64 x2] 49)).alloc (.cells #[.int .i64 x1, .int .i64 0] 49)) ∧ w.heap.size ≤ ((wr.alloc (.cells #[.int .i64 x1, .int .i64 x2] 49)).alloc (.cells #[.int .i64 x1, .int .i64 0] 49)).heap.size) := ⟨Below.next (Below.next HO.out.2 (below_alloc _ _)) (below_alloc _ _), (Below.next (Below.next HO.out.2 (below_alloc _ _)) (below_alloc _ _)).size⟩
      clear hc c1 c2 hx hbl HO
      obtain ⟨hi, hz0, hz1, hz2⟩ := hI.out
      go_wp2_with (at_builtin; refine wpList_append_own _ rfl _ _ 22 rfl w.heap.size 49 i0 (.agg #[.int .i64 0, .int .i64 0]) 2 16 Tryz.underlying22 hi hz0 hz1 hz2 rfl (by decide) _ i _ rfl O2.out ⟨wr.heap.size + 1, 0, none⟩ 1 1 [.int .i64 x1, .int .i64 0] rfl rfl ?c1 ?c2 ?c3 ?c4 ?c5 ?_)
      case c1 =>
        intro j u hj
        match j, hj with
        | 0, hj => simp at hj; subst hj; simp [Addr.add, go_sem]
        | 1, hj => simp at hj; subst hj; simp [Addr.add, go_sem]
      case c2 => intro u hu; simp at hu; rcases hu with rfl | rfl <;> rfl
      case c3 => unfold maxLen; omega
      case c4 => omega
      case c5 => exact B2.out.2
      intro v' w1 hown' hgrow _
      have O3 : Aside (w1.ownsRow w.heap.size 49 2 v' (i + 1) (cells2 (untag (d.toList.take (i + 1)))) ∧ Below w.heap.size w w1) := by
        refine ⟨?_, own_grown O2.out B2.out.1 (Nat.le_refl _) hgrow⟩
        rw [untag_take (by rw [N.out]; omega), cells2_append, ← X.out]
        exact hown'
      clear hi hz0 hz1 hz2 q1 q2 O2 B2 hown' hgrow
      go_wp2_with fail
      go_roundg (n - (i + 1))
      case measure => omega
      case rel => exact ⟨i + 1, by go_num, by omega, by omega, O3⟩
    · have hltz : ¬ (i : Int) < (n : Int) := by omega
      go_wp2_with fail
      go_ret
      obtain ⟨h1, h2⟩ := HO.out
      have e0 : i = n := by omega
      subst e0
      have e1 : (untag (d.toList.take i)) = untag d.toList := by rw [← N.out, ← Array.length_toList, List.take_length]
      have e2 : (untag d.toList).length = i := by rw [← N.out]; simp [untag]
      rw [e1] at h1
      conv at h1 => rw [← e2]
      obtain ⟨a', cap', rfl, hr, _⟩ := own_holds h1
      rw [e2]
      exact ⟨a', ⟨cap', rfl⟩, hr, h2⟩

def textB (t : Int) (d : Array It) (o : Ordr) : Bool := if t = 2 then decide (o.kind = 0) && decide (d = (untag d.toList).toArray) else decide (t = 0) || decide (t = 1)

set_option maxHeartbeats 2000000 in
set_option maxRecDepth 1000000 in
theorem text_calls (t : Int) (a : Option Addr) (cap n : Nat) (d : Array It) (o : Ordr) (w : World) (h : Rd2 w a d) (hn : d.size = n) (hsz : n ≤ 2000) :
    Calls Tryz.prog 24 #[.int .i64 t, .slice a n cap, vOrd o] w fun e w' => e = .returned (.bool (textB t d o)) ∧ Below w.heap.size w w' := by
  obtain ⟨k, s, m0, m1, m2⟩ := o
  unfold textB
  have B' : Aside (Below w.heap.size w (w.alloc (.cells #[.int .i64 k, .int .i64 s, .int .u64 m0, .int .u64 m1, .int .u64 m2] 26))) := below_alloc w _
  have H : Aside (Rd2 w a d) := h
  have HU := untagged_calls a cap n d (w.alloc (.cells #[.int .i64 k, .int .i64 s, .int .u64 m0, .int .u64 m1, .int .u64 m2] 26)) (h.keep B'.out) hn hsz
  have N : Aside (d.size = n) := hn
  clear h hn
  by_cases h2 : t = 2
  · rw [if_pos h2]
    dsimp only
    subst h2
    by_cases hk : k = 0
    · subst hk
      rw [show decide ((0 : Int) = 0) = true from rfl, Bool.true_and]
      go_enter Tryz.func24, Tryz.ntmps24
      go_wp2_with fail
      refine HU.mono ?_
      rintro e w1 ⟨a', cap', rfl, hr, hb⟩
      have hS := same_calls a a' cap cap' d (untag d.toList).toArray w1 ((H.out.keep B'.out).keep hb) hr (by rw [N.out]; exact hsz)
      rw [N.out, show (untag d.toList).toArray.size = n by rw [← N.out]; simp [untag]] at hS
      have B2 : Aside (Below w.heap.size w w1) := Below.next B'.out hb
      clear hr hb H HU
      go_wp2_with fail
      refine hS.mono ?_
      rintro e w2 ⟨rfl, q, rfl⟩
      go_wp2_with fail
      go_ret
      exact ⟨rfl, below_drewN B2.out q⟩
    · rw [show decide (k = 0) = false from decide_eq_false hk, Bool.false_and]
      clear HU
      go_enter Tryz.func24, Tryz.ntmps24
      go_wp2_with fail
      go_ret
      exact ⟨rfl, B'.out⟩
  · rw [if_neg h2]
    clear HU
    by_cases h0 : t = 0
    · subst h0
      go_enter Tryz.func24, Tryz.ntmps24
      go_wp2_with fail
      go_ret
      exact ⟨rfl, B'.out⟩
    · go_enter Tryz.func24, Tryz.ntmps24
      go_wp2_with fail
      go_ret
      exact ⟨rfl, B'.out⟩
end Go.Proofs.YtglgmkikegbchaaGreat
