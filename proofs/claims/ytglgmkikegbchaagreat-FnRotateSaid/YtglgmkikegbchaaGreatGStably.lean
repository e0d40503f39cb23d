/- spec.Stably: a list in an order, by putting one element behind the other into its place. -/
import Derived.Test.YtglgmkikegbchaaGreatGCopy2
import Derived.Test.YtglgmkikegbchaaGreatGSOrd
import Derived.Test.YtglgmkikegbchaaGreatMid
import Derived.Test.YtglgmkikegbchaaGreatPe
import Derived.Lib.BufferMore
import Derived.Deep.AppendLies
namespace Go.Proofs.YtglgmkikegbchaaGreat
open Go.RowKit Go.Sort

theorem stablyFrom_append {α : Type} [Inhabited α] (lt : α → α → Bool) : ∀ (l : List α) (out : List α) (x : α), stablyFrom lt out (l ++ [x]) = insAt (stablyFrom lt out l) (bsearch (fun m => !lt x (stablyFrom lt out l)[m]!) 0 (stablyFrom lt out l).length) x
  | [], _, _ => rfl
  | _ :: l, _, x => stablyFrom_append lt l _ x
theorem stablyP_snoc {α : Type} [Inhabited α] (lt : α → α → Bool) (l : List α) (x : α) : stablyP lt (l ++ [x]) = insAt (stablyP lt l) (bsearch (fun m => !lt x (stablyP lt l)[m]!) 0 (stablyP lt l).length) x := stablyFrom_append lt l [] x
theorem length_insAt {α : Type} (l : List α) (p : Nat) (x : α) (h : p ≤ l.length) : (insAt l p x).length = l.length + 1 := by simp [insAt]; omega
theorem length_stablyFrom {α : Type} [Inhabited α] (lt : α → α → Bool) : ∀ (l out : List α), (stablyFrom lt out l).length = out.length + l.length
  | [], out => by simp [stablyFrom]
  | x :: l, out => by
    rw [stablyFrom, length_stablyFrom lt l, length_insAt _ _ _ (bsearch_range _ _ 0 out.length (Nat.le_refl _) (Nat.zero_le _)).2]
    simp; omega
theorem length_stablyP {α : Type} [Inhabited α] (lt : α → α → Bool) (l : List α) : (stablyP lt l).length = l.length := by rw [stablyP, length_stablyFrom]; simp

theorem row_set {w : World} {g i : Nat} {cs : Array Value} {t : TypeId} {fr : Nat × Nat} (h : w.heap[g]? = some (.cells cs t fr)) (v : Value) : (w.setCell ⟨g, i, none⟩ v).heap[g]? = some (.cells (cs.setIfInBounds i v) t fr) := by
  simp [World.setCell, Array.getElem?_modify, h]
theorem cells2_set : ∀ (l : List It) (k : Nat) (x1 x2 : Int) (z : List Value), k < l.length → ((cells2 l ++ z).set (k * 2) (.int .i64 x1)).set (k * 2 + 1) (.int .i64 x2) = cells2 (l.set k (x1, x2)) ++ z
  | [], k, _, _, _, h => by simp at h
  | y :: l, 0, x1, x2, z, _ => by simp [cells2]
  | y :: l, k + 1, x1, x2, z, h => by
    have := cells2_set l k x1 x2 z (by simpa using h)
    rw [show (k + 1) * 2 = k * 2 + 1 + 1 by omega]
    simp only [cells2, List.cons_append, List.set_cons_succ]
    rw [this]
/-- What the copy and the store make of the list. -/
theorem shift_insAt (L : List It) (p : Nat) (x u : It) (h : p ≤ L.length) : ((L ++ [u]).take (p + 1) ++ (L.drop p ++ (L ++ [u]).drop (p + 1 + (L.drop p).length))).set p x = insAt L p x := by
  unfold insAt
  apply List.ext_getElem?
  intro i
  have hlen : (L.drop p).length = L.length - p := by simp
  rw [hlen, show p + 1 + (L.length - p) = L.length + 1 by omega]
  have e1 : (L ++ [u]).drop (L.length + 1) = [] := by rw [List.drop_eq_nil_iff]; simp
  rw [e1, List.append_nil]
  have ht : ((L ++ [u]).take (p + 1)).length = p + 1 := by simp; omega
  have ht2 : (L.take p).length = p := by simp; omega
  by_cases h1 : i < p
  · rw [List.getElem?_set_ne (by omega), List.getElem?_append_left (by omega), List.getElem?_append_left (by omega), List.getElem?_take_of_lt (by omega), List.getElem?_take_of_lt h1, List.getElem?_append_left (by omega)]
  · by_cases h2 : i = p
    · subst h2
      rw [List.getElem?_set_self (by simp; omega), List.getElem?_append_right (by omega), ht2]; simp
    · rw [List.getElem?_set_ne (by omega), List.getElem?_append_right (by omega), ht, List.getElem?_append_right (by omega), ht2]
      rw [show i - p = (i - (p + 1)) + 1 by omega, List.getElem?_cons_succ]
theorem splice_shift (L : List It) (p : Nat) (u : It) (z : List Value) (h : p ≤ L.length) : splice (cells2 (L ++ [u]) ++ z) ((p + 1) * 2) (cells2 (L.drop p)) = cells2 ((L ++ [u]).take (p + 1) ++ (L.drop p ++ (L ++ [u]).drop (p + 1 + (L.drop p).length))) ++ z := by
  unfold splice
  have hl : (cells2 (L ++ [u])).length = (L.length + 1) * 2 := by rw [cells2_length]; simp
  have hd : (cells2 (L.drop p)).length = (L.length - p) * 2 := by rw [cells2_length]; simp
  have hd' : (L.drop p).length = L.length - p := by simp
  rw [List.take_append_of_le_length (by omega), hd, hd', show (p + 1) * 2 + (L.length - p) * 2 = (p + 1 + (L.length - p)) * 2 by omega, List.drop_append_of_le_length (by omega), cells2_take, cells2_drop, cells2_append, cells2_append]
  simp

set_option maxHeartbeats 8000000 in
set_option maxRecDepth 1000000 in
theorem stably_calls (a : Option Addr) (cap n : Nat) (d : Array It) (o : Ordr) (w : World) (h : Rd2 w a d) (hn : d.size = n) (hsz : n ≤ 2000) (hs0 : 0 ≤ o.shift) (hs1 : o.shift < 64) :
    Calls Tryz.prog 51 #[.slice a n cap, vOrd o] w fun e w' => ∃ ra rcap, e = .returned (.slice ra n rcap) ∧ Rd2 w' ra (stablyP (ltC (cfO o)) d.toList).toArray ∧ n ≤ rcap ∧ Below w.heap.size w w' := by
  obtain ⟨i0, hi, hz0, hz1, hz2⟩ := info_parts (show (Tryz.prog.info? 49).map (fun i => (i.zero, i.size, i.bytes)) = some (some (.agg #[.int .i64 0, .int .i64 0]), 2, 16) by kernel_rfl)
  have hI : Aside (Tryz.prog.info? 49 = some i0 ∧ i0.zero = some (.agg #[.int .i64 0, .int .i64 0]) ∧ i0.size = 2 ∧ i0.bytes = 16) := ⟨hi, hz0, hz1, hz2⟩
  have LC0 := fun x y W => sless_calls o hs0 hs1 x y W
  generalize ltC (cfO o) = lt at LC0 ⊢
  have LC : Aside _ := LC0
  have HD : Aside (Rd2 w a d ∧ d.size = n) := ⟨h, hn⟩
  clear hi hz0 hz1 hz2 h hn hs0 hs1 LC0
  obtain ⟨k, s, m0, m1, m2⟩ := o
  have B0 : Aside (Below w.heap.size w (w.alloc (.cells #[.int .i64 k, .int .i64 s, .int .u64 m0, .int .u64 m1, .int .u64 m2] 26))) := below_alloc _ _
  have K0 : Aside (BoxO (w.alloc (.cells #[.int .i64 k, .int .i64 s, .int .u64 m0, .int .u64 m1, .int .u64 m2] 26)) w.heap.size ⟨k, s, m0, m1, m2⟩) := boxO_new w ⟨k, s, m0, m1, m2⟩ _
  go_enter Tryz.func51, Tryz.ntmps51
  go_wp2_with fail
  go_loopg [5, 13] n (fun g vo vi wr => ∃ i : Nat, vi = .int .i64 i ∧ i ≤ n ∧ n - i ≤ g ∧ Aside (wr.ownsRow (w.heap.size + 1) 49 2 vo i (cells2 (stablyP lt (d.toList.take i))) ∧ Below w.heap.size w wr ∧ BoxO wr w.heap.size ⟨k, s, m0, m1, m2⟩))
  case atStart => exact ⟨0, rfl, Nat.zero_le _, by omega, World.ownsRow_nil _ _ _ _, B0.out, K0.out⟩
  case round =>
    clear B0 K0
    obtain ⟨i, rfl, hin, hg, HO⟩ := hrel
    by_cases hlt : i < n
    · have hltz : (i : Int) < (n : Int) := by omega
      obtain ⟨hd, hn⟩ := HD.out
      obtain ⟨ho, hb, hk⟩ := HO.out
      obtain ⟨blk, off, rfl, hbl, hc⟩ := hd (by omega)
      obtain ⟨⟨x1, x2⟩, hx⟩ : ∃ x : It, x = d[i]! := ⟨_, rfl⟩
      obtain ⟨c1, c2⟩ := hc i (by omega)
      rw [← hx] at c1 c2
      have q1 := (hb.cell (p := ⟨blk, off + i * 2, none⟩) hbl).trans c1
      have q2 := (hb.cell (p := ⟨blk, off + i * 2 + 1, none⟩) hbl).trans c2
      dsimp only at q1 q2
      obtain ⟨L, hL⟩ : ∃ L, L = stablyP lt (d.toList.take i) := ⟨_, rfl⟩
      have hLl : L.length = i := by rw [hL, length_stablyP, List.length_take, Array.length_toList]; omega
      have hnext : stablyP lt (d.toList.take (i + 1)) = insAt L (bsearch (fun m => !lt (x1, x2) L[m]!) 0 i) (x1, x2) := by
        rw [List.take_succ_eq_append_getElem (by simpa using (by omega : i < d.size)), stablyP_snoc, ← hL, hLl]
        have e : d.toList[i]'(by simpa using (by omega : i < d.size)) = (x1, x2) := by rw [hx, getElem!_pos d i (by omega)]; simp
        rw [e]
      rw [← hL] at ho
      obtain ⟨X, hX⟩ : ∃ X, X = wr.alloc (.cells #[.int .i64 x1, .int .i64 x2] 49) := ⟨_, rfl⟩
      have BX0 : Below wr.heap.size wr X := by rw [hX]; exact below_alloc _ _
      have cx : X.cell? ⟨wr.heap.size, 0, none⟩ = some (.int .i64 x1) ∧ X.cell? ⟨wr.heap.size, 1, none⟩ = some (.int .i64 x2) := by
        rw [hX]
        have hb := heap_alloc_new wr (.cells #[.int .i64 x1, .int .i64 x2] 49)
        exact ⟨by unfold World.cell?; rw [hb]; rfl, by unfold World.cell?; rw [hb]; rfl⟩
      have NX : Aside (stablyP lt (d.toList.take (i + 1)) = insAt L (bsearch (fun m => !lt (x1, x2) L[m]!) 0 i) (x1, x2)) := hnext
      have HX : Aside (X.ownsRow (w.heap.size + 1) 49 2 u5 i (cells2 L) ∧ Below w.heap.size w X ∧ BoxO X w.heap.size ⟨k, s, m0, m1, m2⟩) := ⟨own_below ho BX0, Below.next hb BX0, hk.keep BX0⟩
      have CX : Aside (X.cell? ⟨wr.heap.size, 0, none⟩ = some (.int .i64 x1) ∧ X.cell? ⟨wr.heap.size, 1, none⟩ = some (.int .i64 x2)) := cx
      have HLL : Aside (L.length = i) := hLl
      have XB : Aside (wr.heap.size < X.heap.size) := by show _ < _; rw [hX]; simp
      have lenv : ∃ ra rc, u5 = .slice ra i rc ∧ ∀ b, (Value.slice ra i rc).ownBlock = some b → w.heap.size + 1 ≤ b ∧ b < wr.heap.size := by
        rcases ho.2 with ⟨h1, h2⟩ | ⟨g, rc, cur, h1, h2, h3, _⟩
        · subst h2; exact ⟨none, 0, h1, fun _ e => by cases e⟩
        · refine ⟨_, rc, h1, fun _ e => ?_⟩
          cases e
          refine ⟨h2, ?_⟩
          rcases Nat.lt_or_ge g wr.heap.size with h' | h'
          · exact h'
          · rw [Array.getElem?_eq_none h'] at h3; cases h3
      obtain ⟨ra, rc, rfl, hra⟩ := lenv
      have hXX : Aside _ := hX
      have RB : Aside _ := hra
      have RX : Aside (Rd2 X ra L.toArray) := by
        obtain ⟨h1, _, _⟩ := HX.out
        rw [← HLL.out] at h1
        obtain ⟨a', c', e, hr, _⟩ := own_holds h1
        cases e
        exact hr
      clear hd hn ho hb hk hbl hc c1 c2 hx hL hLl hnext BX0 cx HO hra
      go_wp2_with fail
      rw [← hXX.out]
      clear q1 q2 hXX hX
      generalize wr.heap.size = XN at CX XB RB ⊢
      go_loopg [8, 9] i (fun g2 vl vh wj => ∃ lo hi : Nat, vl = .int .i64 lo ∧ vh = .int .i64 hi ∧ lo ≤ hi ∧ hi ≤ i ∧ hi - lo ≤ g2 ∧ Aside (Below X.heap.size X wj) ∧ Hid (bsearch (fun m => !lt (x1, x2) L[m]!) lo hi = bsearch (fun m => !lt (x1, x2) L[m]!) 0 i))
      case atStart => exact ⟨0, i, rfl, rfl, Nat.zero_le _, Nat.le_refl _, by omega, Below.refl _ _, rfl⟩
      case round =>
        obtain ⟨lo, hi, rfl, rfl, hlh, hhi, hg2, Bj, HP⟩ := hrel
        by_cases hj : lo < hi
        · have hjz : (lo : Int) < (hi : Int) := by omega
          obtain ⟨M, hM⟩ : ∃ M, M = (lo + hi) / 2 := ⟨_, rfl⟩
          have hMz : ((lo : Int) + (hi : Int)) / 2 = (M : Int) := by omega
          have hM1 : lo ≤ M := by omega
          have hM2 : M < hi := by omega
          have HM : Aside (M = (lo + hi) / 2) := hM
          have hLl : L.length = i := HLL.out
          obtain ⟨bb, oo, rfl, hbl2, hc2⟩ := RX.out (by rw [List.size_toArray]; omega)
          obtain ⟨⟨y1, y2⟩, hy⟩ : ∃ y : It, y = L[M]! := ⟨_, rfl⟩
          obtain ⟨c3, c4⟩ := hc2 M (by rw [List.size_toArray]; omega)
          rw [show L.toArray[M]! = L[M]! by simp, ← hy] at c3 c4
          obtain ⟨_, _, hk⟩ := HX.out
          obtain ⟨_, k0, k1, k2, k3, k4⟩ := hk
          obtain ⟨cx1, cx2⟩ := CX.out
          have keep : ∀ q v, X.cell? q = some v → ∀ dd os, (grow (redrawn wr dd) os).cell? q = some v := fun q v hq => cell_regrown ((Bj.out.cell (block_lt_of_cell hq)).trans hq)
          have p0 := keep _ _ k0
          have p1 := keep _ _ k1
          have p2 := keep _ _ k2
          have p3 := keep _ _ k3
          have p4 := keep _ _ k4
          have r1 := keep _ _ cx1
          have r2 := keep _ _ cx2
          have r3 := keep _ _ c3
          have r4 := keep _ _ c4
          obtain ⟨c, hcc⟩ : ∃ c, c = lt (x1, x2) (y1, y2) := ⟨_, rfl⟩
          have hl : ∀ p : Regrown, Calls Tryz.prog 47 #[.agg #[.int .i64 k, .int .i64 s, .int .u64 m0, .int .u64 m1, .int .u64 m2], .agg #[.int .i64 x1, .int .i64 x2], .agg #[.int .i64 y1, .int .i64 y2]] (grow (redrawn wr p.d) p.os) fun e w'' => e = .returned (.bool c) ∧ ∃ p : Regrown, w'' = grow (redrawn wr p.d) p.os := fun p => by
            rw [hcc]; exact Calls.regrown_of (LC.out (x1, x2) (y1, y2) _)
          have HV : Aside ((!lt (x1, x2) L[M]!) = !c) := by show _ = _; rw [← hy, hcc]
          have mixed : Tryz.prog.follows .mixedOrders = true := by kernel_rfl
          have mz : (M : Int) < (i : Int) := by omega
          have wm : IntKind.i64.wrap (M : Int) = (M : Int) := by rw [IntKind.wrap_i64]; omega
          dsimp only at p0 p1 p2 p3 p4
          clear hM hbl2 hc2 hy c3 c4 k0 k1 k2 k3 k4 cx1 cx2 keep hcc
          go_wp2_with fail
          refine wp_region_quiet_below (by assumption) (by kernel_rfl) ?_
          repeat' (quiet_step (with_reducible exact hl _))
          all_goals
            refine wpQuiet_nil ?_
            intro _ hw'
            obtain ⟨⟨nq, osq⟩, hw''⟩ := hw'
            subst hw''
          have B2 : Aside _ := Below.next Bj.out (below_regrown wr nq osq)
          clear hl p0 p1 p2 p3 p4 r1 r2 r3 r4 Bj mixed wm
          cases c with
          | true =>
            go_wp2_with fail
            go_roundg (M - lo)
            case measure => omega
            case rel => exact ⟨lo, M, rfl, rfl, by omega, by omega, Nat.le_refl _, B2, by
              show _ = _
              rw [← HP.out]
              conv => rhs; rw [bsearch, dif_pos hj, ← HM.out, if_neg (by rw [HV.out]; exact Bool.false_ne_true)]⟩
          | false =>
            go_wp2_with fail
            go_roundg (hi - (M + 1))
            case measure => omega
            case rel => exact ⟨M + 1, hi, by go_num, rfl, by omega, by omega, Nat.le_refl _, B2, by
              show _ = _
              rw [← HP.out]
              conv => rhs; rw [bsearch, dif_pos hj, ← HM.out, if_pos (by rw [HV.out]; rfl)]⟩
        · have hjz : ¬ (lo : Int) < (hi : Int) := by omega
          obtain rfl : hi = lo := by omega
          have hPb : bsearch (fun m => !lt (x1, x2) L[m]!) 0 i = hi := by rw [← HP.out, bsearch, dif_neg (by omega)]
          have HPb : Aside _ := hPb
          clear hPb HP hlh
          have oj := own_below HX.out.1 Bj.out
          have O2 : Aside ((wr.alloc (.cells #[.int .i64 0, .int .i64 0] 49)).ownsRow (w.heap.size + 1) 49 2 (.slice ra i rc) i (cells2 L)) := own_below oj (below_alloc _ _)
          have BW : Aside (Below w.heap.size w (wr.alloc (.cells #[.int .i64 0, .int .i64 0] 49))) := Below.next (Below.next HX.out.2.1 Bj.out) (below_alloc _ _)
          have KW : Aside (BoxO (wr.alloc (.cells #[.int .i64 0, .int .i64 0] 49)) w.heap.size ⟨k, s, m0, m1, m2⟩) := (HX.out.2.2.keep Bj.out).keep (below_alloc _ _)
          have hXs : X.heap.size ≤ wr.heap.size := Bj.out.size
          have CW : Aside ((wr.alloc (.cells #[.int .i64 0, .int .i64 0] 49)).cell? ⟨XN, 0, none⟩ = some (.int .i64 x1) ∧ (wr.alloc (.cells #[.int .i64 0, .int .i64 0] 49)).cell? ⟨XN, 1, none⟩ = some (.int .i64 x2)) :=
            ⟨((Below.next Bj.out (below_alloc _ _)).cell (by exact XB.out)).trans CX.out.1, ((Below.next Bj.out (below_alloc _ _)).cell (by exact XB.out)).trans CX.out.2⟩
          have SZ : Aside (XN < wr.heap.size ∧ w.heap.size + 1 ≤ (wr.alloc (.cells #[.int .i64 0, .int .i64 0] 49)).heap.size) := ⟨Nat.lt_of_lt_of_le XB.out hXs, by have := BW.out.size; have := HX.out.2.1.size; simp; omega⟩
          obtain ⟨hii, hz0, hz1, hz2⟩ := hI.out
          clear oj hXs Bj
          have G1 : Aside (∀ j u, ([.int .i64 0, .int .i64 0] : List Value)[j]? = some u → (wr.alloc (.cells #[.int .i64 0, .int .i64 0] 49)).cell? ((⟨wr.heap.size, 0, none⟩ : Addr).add j) = some u) := World.news_of_block (heap_alloc_new wr (.cells #[.int .i64 0, .int .i64 0] 49))
          have G2 : Aside (∀ u ∈ ([.int .i64 0, .int .i64 0] : List Value), u.oneCell' = true) := fun u hu => by simp at hu; subst hu; rfl
          have G3 : Aside (i + 1 ≤ maxLen ∧ (i + 1) * 16 ≤ 140737488355328) := ⟨by unfold maxLen; omega, by omega⟩
          go_upto_region 12 with (at_builtin; refine wpList_append_lies _ rfl _ _ 22 rfl (w.heap.size + 1) 49 i0 (.agg #[.int .i64 0, .int .i64 0]) 2 16 Tryz.underlying22 hii hz0 hz1 hz2 rfl (by decide) _ i _ rfl O2.out ⟨wr.heap.size, 0, none⟩ 1 1 [.int .i64 0, .int .i64 0] rfl rfl G1.out G2.out (by decide) G3.out.1 G3.out.2 SZ.out.2 _ rfl ?_; intro g rcap w1 hown hgrow hat hlt; have A1 : Aside _ := hown; have A2 : Aside _ := hgrow; have A3 : Aside _ := hat; have A4 : Aside _ := hlt; clear hown hgrow hat hlt)
          clear hii hz0 hz1 hz2 G1 G2 G3
          obtain ⟨hl1, ⟨_, h0⟩ | ⟨g', rcap', cur, e1, hgb, hgc, hnc, hcm, hcs, ht⟩⟩ := A1.out
          · omega
          · cases e1
            have hne1 : some XN ≠ (Value.slice ra i rc).ownBlock := fun e => by have := RB.out XN e.symm; omega
            have hne2 : some w.heap.size ≠ (Value.slice ra i rc).ownBlock := fun e => by have := RB.out _ e.symm; omega
            have hgx : g ≠ XN := by
              rcases A3.out with h | h
              · have := RB.out g h; omega
              · have h2 := SZ.out.1; rw [h]; simp; omega
            have lt1 : XN < (wr.alloc (.cells #[.int .i64 0, .int .i64 0] 49)).heap.size := by have := SZ.out.1; simp; omega
            have x1c := (A2.out.cell_far ⟨XN, 0, none⟩ lt1 hne1).trans CW.out.1
            have x2c := (A2.out.cell_far ⟨XN, 1, none⟩ lt1 hne1).trans CW.out.2
            obtain ⟨kw0, kc0, kc1, kc2, kc3, kc4⟩ := KW.out
            have K1 : Aside (BoxO w1 w.heap.size ⟨k, s, m0, m1, m2⟩) := ⟨Nat.lt_of_lt_of_le kw0 A2.out.size, (A2.out.cell_far ⟨_, 0, none⟩ kw0 hne2).trans kc0, (A2.out.cell_far ⟨_, 1, none⟩ kw0 hne2).trans kc1, (A2.out.cell_far ⟨_, 2, none⟩ kw0 hne2).trans kc2, (A2.out.cell_far ⟨_, 3, none⟩ kw0 hne2).trans kc3, (A2.out.cell_far ⟨_, 4, none⟩ kw0 hne2).trans kc4⟩
            have B1 : Aside (Below w.heap.size w w1) := own_grown O2.out BW.out (by omega) A2.out
            have hLl : L.length = i := HLL.out
            obtain ⟨zs, hzs⟩ : ∃ zs, zs = cur.toList.drop ((i + 1) * 2) := ⟨_, rfl⟩
            have hcur : cur.toList = cells2 (L ++ [(0, 0)]) ++ zs := by
              rw [hzs, cells2_append]
              conv => lhs; rw [← List.take_append_drop ((i + 1) * 2) cur.toList, ht]
              rfl
            have hcl : cur.toList.length = rcap * 2 := by simpa using hcs
            have hrow1 : w1.drew.heap[g]? = some (.cells cur.toList.toArray 49 (0, 0)) := by rw [show w1.drew.heap = w1.heap from rfl, Array.toArray_toList]; exact hgc
            obtain ⟨w2, hr, CT⟩ := run_copy2 (P := Tryz.prog) w1.drew 22 22 3 49 (if rcap = hi + 1 then some ⟨g, 0, none⟩ else some ⟨g, (hi + 1) * 2, none⟩) (if rcap = hi then some ⟨g, 0, none⟩ else some ⟨g, hi * 2, none⟩) (i - hi) (rcap - (hi + 1)) (i + 1 - hi) (rcap - hi) g ((hi + 1) * 2) cur.toList 49 (cells2 (L.drop hi))
              Tryz.underlying22 (by rw [hI.out.1]; simp [hI.out.2.2.1]) hrow1 (by rw [cells2_length, List.length_drop, hLl, show Nat.min (i + 1 - hi) (i - hi) = i - hi from Nat.min_eq_right (by omega)]) (fun h0 => by
                rw [cells2_length, List.length_drop, hLl] at h0
                refine ⟨if_neg (by omega), ⟨g, hi * 2, none⟩, if_neg (by omega), fun j u hu => ?_⟩
                rw [Addr.add_lit, cell_of_row w1.drew g (hi * 2 + j) cur 49 (0, 0) (by rw [show w1.drew.heap = w1.heap from rfl]; exact hgc)]
                rw [← cells2_drop, List.getElem?_drop] at hu
                have hj := (List.getElem?_eq_some_iff.1 hu).1
                have : cur.toList[hi * 2 + j]? = some u := by
                  rw [hcur, cells2_append, List.append_assoc, List.getElem?_append_left hj]; exact hu
                simpa using this) (by rw [cells2_length, List.length_drop, hLl, hcl]; omega) (cells2_one _)
            have HCT : Aside _ := CT
            have HCU : Aside (cur.toList = cells2 (L ++ [(0, 0)]) ++ zs ∧ cur.toList.length = rcap * 2 ∧ i + 1 ≤ rcap ∧ rcap ≤ maxLen ∧ w.heap.size + 1 ≤ g) := ⟨hcur, hcl, hnc, hcm, hgb⟩
            have X1 : Aside (w1.cell? ⟨XN, 0, none⟩ = some (.int .i64 x1) ∧ w1.cell? ⟨XN, 1, none⟩ = some (.int .i64 x2)) := ⟨x1c, x2c⟩
            have HGX : Aside (g ≠ XN) := hgx
            have sl1 : (hi : Int) + 1 ≤ (i : Int) + 1 := by omega
            have sl2 : (hi : Int) ≤ (i : Int) + 1 := by omega
            have sw1 : IntKind.i64.wrap ((hi : Int) + 1) = (hi : Int) + 1 := by rw [IntKind.wrap_i64]; omega
            have sw2 : IntKind.i64.wrap (hi : Int) = (hi : Int) := by rw [IntKind.wrap_i64]; omega
            have st1 : ((hi : Int) + 1).toNat = hi + 1 := by omega
            have sp1 : (0 : Int) ≤ (hi : Int) + 1 := by omega
            have HR : Aside _ := hr
            clear hl1 hgb hgc hnc hcm hcs ht hne1 hne2 hgx lt1 x1c x2c kw0 kc0 kc1 kc2 kc3 kc4 hcur hcl hrow1 CT hzs hr
            refine wp_region_still_mid 7 (by kernel_rfl) (by kernel_rfl) ?_
            intro Q1 hQ1
            simp only [List.take_succ_cons, List.take_zero, List.drop_succ_cons, List.drop_zero] at hQ1 ⊢
            have HQ : Aside _ := hQ1
            clear hQ1
            repeat still_step
            refine wpStill_nil ?_
            change wpList _ _ _ _ _ w1.drew
            refine wpList_copy_eq rfl _ _ _ _ rfl _ _ _ _ rfl rfl HR.out ?_
            refine HQ.out _ _ ?_
            refine wpStill_nil ?_
            have hLl : L.length = i := HLL.out
            obtain ⟨M, hM⟩ : ∃ M, M = (L ++ [(0, 0)]).take (hi + 1) ++ (L.drop hi ++ (L ++ [(0, 0)]).drop (hi + 1 + (L.drop hi).length)) := ⟨_, rfl⟩
            have hMx : M.set hi (x1, x2) = insAt L hi (x1, x2) := by rw [hM]; exact shift_insAt L hi (x1, x2) (0, 0) (by omega)
            have hMl : M.length = i + 1 := by
              have h1 := congrArg List.length hMx
              rw [List.length_set, length_insAt _ _ _ (by omega), hLl] at h1
              exact h1
            have hrow := HCT.out.row
            rw [HCU.out.1, splice_shift L hi (0, 0) zs (by omega), ← hM] at hrow
            have hk1 : hi * 2 < (cells2 M).length := by rw [cells2_length]; omega
            have hk2 : hi * 2 + 1 < (cells2 M).length := by rw [cells2_length]; omega
            have cell2 : ∀ q, q < (cells2 M).length → ∃ u, w2.cell? ⟨g, q, none⟩ = some u := fun q hq => by
              refine ⟨(cells2 M)[q], ?_⟩
              rw [cell_of_row w2 g q _ 49 (0, 0) hrow]
              simp only [List.getElem?_toArray]
              rw [List.getElem?_append_left hq, List.getElem?_eq_getElem hq]
            have fz : ∀ q, w2.frozen? ⟨g, q, none⟩ = false := fun q => by unfold World.frozen?; rw [hrow]; simp
            obtain ⟨v1, e1⟩ := cell2 (hi * 2) hk1
            obtain ⟨v2, e2'⟩ := cell2 (hi * 2 + 1) hk2
            have e2 : (w2.setCell ⟨g, hi * 2, none⟩ (.int .i64 x1)).cell? ⟨g, hi * 2 + 1, none⟩ = some v2 := by rw [cell_set (by rw [e1]; rfl), if_neg (by omega)]; exact e2'
            have f1 := fz (hi * 2)
            have f2 := fz (hi * 2 + 1)
            have xo := HCT.out.other XN (Ne.symm HGX.out)
            have y1 : w2.cell? ⟨XN, 0, none⟩ = some (.int .i64 x1) := (World.cell?_of_block xo).trans X1.out.1
            have y2 : w2.cell? ⟨XN, 1, none⟩ = some (.int .i64 x2) := (World.cell?_of_block xo).trans X1.out.2
            have hrow5 := row_set (i := hi * 2 + 1) (row_set (i := hi * 2) hrow (.int .i64 x1)) (.int .i64 x2)
            have O5 : Aside (((w2.setCell ⟨g, hi * 2, none⟩ (.int .i64 x1)).setCell ⟨g, hi * 2 + 1, none⟩ (.int .i64 x2)).ownsRow (w.heap.size + 1) 49 2 (.slice (some ⟨g, 0, none⟩) (i + 1) rcap) (i + 1) (cells2 (stablyP lt (d.toList.take (i + 1))))) := by
              obtain ⟨_, hcl, hnc, hcm, hgb⟩ := HCU.out
              have hres : cells2 (stablyP lt (d.toList.take (i + 1))) = cells2 (M.set hi (x1, x2)) := by rw [NX.out, HPb.out, hMx]
              refine ⟨by rw [hres, cells2_length, List.length_set, hMl], Or.inr ⟨g, rcap, _, rfl, hgb, hrow5, hnc, hcm, ?_, ?_⟩⟩
              · have h1 : (cells2 M ++ zs).length = rcap * 2 := by
                  rw [hM, ← splice_shift L hi (0, 0) zs (by omega), ← HCU.out.1, length_splice _ _ _ (by rw [cells2_length, List.length_drop, hLl, hcl]; omega)]
                  exact hcl
                simpa using h1
              · rw [hres]
                simp only [Array.toList_setIfInBounds]
                rw [cells2_set M hi x1 x2 zs (by omega), List.take_append_of_le_length (by rw [cells2_length, List.length_set, hMl]; omega), List.take_of_length_le (by rw [cells2_length, List.length_set, hMl]; omega)]
            have B5 : Aside (Below w.heap.size w ((w2.setCell ⟨g, hi * 2, none⟩ (.int .i64 x1)).setCell ⟨g, hi * 2 + 1, none⟩ (.int .i64 x2))) :=
              (((HCT.out.below _ _ (below_drewN B1.out 1) (by have := HCU.out.2.2.2.2; omega)).setCell (by have := HCU.out.2.2.2.2; show w.heap.size ≤ g; omega) _).setCell (by have := HCU.out.2.2.2.2; show w.heap.size ≤ g; omega) _)
            have K5 : Aside (BoxO ((w2.setCell ⟨g, hi * 2, none⟩ (.int .i64 x1)).setCell ⟨g, hi * 2 + 1, none⟩ (.int .i64 x2)) w.heap.size ⟨k, s, m0, m1, m2⟩) := by
              have hgn : w.heap.size ≠ g := by have := HCU.out.2.2.2.2; omega
              have hbk : ((w2.setCell ⟨g, hi * 2, none⟩ (.int .i64 x1)).setCell ⟨g, hi * 2 + 1, none⟩ (.int .i64 x2)).heap[w.heap.size]? = w1.heap[w.heap.size]? := (Below.heap_setCell _ _ _ _ hgn).trans ((Below.heap_setCell _ _ _ _ hgn).trans (HCT.out.other _ hgn))
              obtain ⟨z0, zc0, zc1, zc2, zc3, zc4⟩ := K1.out
              exact ⟨by have h2 := HCT.out.size; simp; rw [h2]; exact z0, (World.cell?_of_block hbk).trans zc0, (World.cell?_of_block hbk).trans zc1, (World.cell?_of_block hbk).trans zc2, (World.cell?_of_block hbk).trans zc3, (World.cell?_of_block hbk).trans zc4⟩
            have iz : (hi : Int) < (i : Int) + 1 := by omega
            clear hLl hM hMx hMl hrow hk1 hk2 cell2 fz e2' xo hrow5 HCT HCU X1 HR HQ B1 K1 A1 A2 A3 A4
            go_wp2_with fail
            all_goals
              go_roundg (n - (i + 1))
              case measure => omega
              case rel => exact ⟨i + 1, by go_num, by omega, by omega, by first | exact O5.out | (have h5 := O5.out; rw [show rcap = hi + 1 by assumption] at h5; exact h5) | (have h5 := O5.out; rw [show rcap = hi by assumption] at h5; exact h5), B5.out, K5.out⟩
    · have hltz : ¬ (i : Int) < (n : Int) := by omega
      obtain rfl : i = n := by omega
      obtain ⟨h1, h2, _⟩ := HO.out
      have hd : d.toList.take i = d.toList := by rw [← HD.out.2, ← Array.length_toList, List.take_length]
      rw [hd] at h1
      have hl : (stablyP lt d.toList).length = i := by rw [length_stablyP, Array.length_toList]; exact HD.out.2
      have hres : ∃ ra rc, u5 = .slice ra i rc ∧ Rd2 wr ra (stablyP lt d.toList).toArray ∧ i ≤ rc := by
        have h1' := h1
        conv at h1' => rw [← hl]
        obtain ⟨a', c', e, hr, hh⟩ := own_holds h1'
        rw [hl] at e hh
        refine ⟨a', c', e, hr, ?_⟩
        rcases hh with hh | ⟨_, _, _, _, hh, _⟩
        · rw [e] at hh; injection hh with _ e1 e2; omega
        · exact hh
      obtain ⟨ra, rc, rfl, hr, hrc⟩ := hres
      have HF : Aside _ := And.intro hr (And.intro hrc h2)
      clear h1 hd hl hr hrc h2 HO
      go_wp2_with fail
      go_ret
      exact ⟨ra, rc, rfl, HF.out⟩
end Go.Proofs.YtglgmkikegbchaaGreat
