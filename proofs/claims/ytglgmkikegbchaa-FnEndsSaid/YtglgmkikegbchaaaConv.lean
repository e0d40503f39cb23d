/- floats, integers (printed by gen/ends.py). -/
import Derived.Test.YtglgmkikegbchaaaNums
import Derived.Test.YtglgmkikegbchaaKa
namespace Go.Proofs.Ytglgmkikegbchaa
open Go.RowKit Go.Sort

/-- A word as a number with a sign. -/
def toI (x : Nat) : Int := IntKind.i64.wrap (x : Int)
/-- What a conversion of a list makes. -/
def ConvTo {α : Type} [Inhabited α] (enc : α → Value) (w : World) (n : Nat) (D : Array α) (e : Ending) (w' : World) : Prop := ∃ b cap', e = .returned (.slice (some ⟨b, 0, none⟩) n cap') ∧ w.heap.size ≤ b ∧ b < w'.heap.size ∧ Holds enc w' b 0 D ∧ Below w.heap.size w w'
theorem own_grown' {B : Nat} {w0 w w' : World} {base : Nat} {e : TypeId} {size n : Nat} {v : Value} {xs : List Value} (h : w.ownsRow base e size v n xs) (hb : Below B w0 w) (hB : B ≤ base) (hBw : B ≤ w.heap.size) (hg : w.grownBy w' v.ownBlock) : Below B w0 w' := by
  refine hb.grown hg hBw (fun k ek => ?_)
  obtain ⟨_, ⟨rfl, _⟩ | ⟨g, cap, cur, rfl, e2, _⟩⟩ := h
  · cases ek
  · cases ek; exact Nat.le_trans hB e2
theorem own_rowE {α : Type} [Inhabited α] (enc : α → Value) (T : TypeId) {w : World} {base n : Nat} {v : Value} {l : List α} (h : w.ownsRow base T 1 v n (l.map enc)) :
    v = .slice none 0 0 ∨ ∃ g cap, v = .slice (some ⟨g, 0, none⟩) n cap ∧ base ≤ g ∧ g < w.heap.size ∧ n ≤ cap ∧ Holds enc w g 0 l.toArray := by
  obtain ⟨hl, ⟨rfl, h0⟩ | ⟨g, cap, cur, rfl, hb, hg, hnc, _, hcs, ht⟩⟩ := h
  · exact Or.inl rfl
  · have hgl : g < w.heap.size := by
      rcases Nat.lt_or_ge g w.heap.size with h | h
      · exact h
      · rw [Array.getElem?_eq_none h] at hg; cases hg
    rw [Nat.mul_one] at ht hl
    have hll : l.length = n := by simpa using hl
    refine Or.inr ⟨g, cap, rfl, hb, hgl, hnc, fun i hi => ?_⟩
    have hi' : i < l.length := by simpa using hi
    refine ⟨?_, by simp [World.frozen?, hg]⟩
    have hu : (l.map enc)[i]? = some (enc l.toArray[i]!) := by
      rw [List.getElem?_map, List.getElem?_eq_getElem hi', getElem!_pos l.toArray i hi]; rfl
    rw [← ht, List.getElem?_take_of_lt (by omega)] at hu
    simp only [World.cell?, hg, Nat.zero_add]
    simpa using hu

set_option maxHeartbeats 2000000 in
set_option maxRecDepth 1000000 in
theorem floats_calls (a : Option Addr) (cap n : Nat) (d : Array Nat) (w : World) (h : RdU w a d) (hn : d.size = n) (hsz : n ≤ 2000) : Calls Try.prog 49 #[.slice a n cap] w (ConvTo eFl w n d) := by
  obtain ⟨D, hD⟩ : ∃ D, D = d := ⟨_, rfl⟩
  have hDs : D.size = n := by rw [hD]; exact hn
  rw [← hD]
  have HD : Aside (∀ i, i < n → D[i]! = d[i]!) := fun i hi => by rw [hD]
  have E : Aside (D.size = n ∧ d.size = n) := ⟨hDs, hn⟩
  have H : Aside (RdU w a d) := h
  clear hD hDs h hn
  obtain ⟨i0, hi, hz0, hz1, hz2⟩ := info_parts (show (Try.prog.info? 86).map (fun i => (i.zero, i.size, i.bytes)) = some (some (.float .f64 0), 1, 8) by kernel_rfl)
  have hI : Aside (Try.prog.info? 86 = some i0 ∧ i0.zero = some (.float .f64 0) ∧ i0.size = 1 ∧ i0.bytes = 8) := ⟨hi, hz0, hz1, hz2⟩
  clear hi hz0 hz1 hz2
  obtain ⟨W, hW⟩ : ∃ W, W = w.alloc (.cells #[] 86) := ⟨_, rfl⟩
  have BW : Aside (Below w.heap.size w W) := by show Below _ _ _; rw [hW]; exact below_alloc _ _
  have OW : Aside (W.ownsRow w.heap.size 86 1 (.slice (some ⟨w.heap.size, 0, none⟩) 0 0) 0 ((D.toList.take 0).map eFl)) := ⟨rfl, Or.inr ⟨_, 0, #[], rfl, Nat.le_refl _, by rw [hW]; exact heap_alloc_new _ _, Nat.le_refl _, by decide, rfl, rfl⟩⟩
  have SW : Aside (w.heap.size ≤ W.heap.size) := BW.out.size
  go_enter Try.func49, Try.ntmps49
  go_upto_region 2 with fail
  rw [← hW]
  clear hW
  go_wp2_with fail
  go_loopg [3, 9] n (fun g vk vi wr => ∃ i : Nat, vi = .int .i64 i ∧ i ≤ n ∧ n - i ≤ g ∧ Aside (wr.ownsRow w.heap.size 86 1 vk i ((D.toList.take i).map eFl) ∧ Below w.heap.size W wr ∧ ¬ vk = .slice none 0 0))
  case atStart => exact ⟨0, rfl, Nat.zero_le _, by omega, OW.out, Below.refl _ _, by simp⟩
  case round =>
    clear OW
    obtain ⟨i, rfl, hin, hg, HO⟩ := hrel
    have szr := Nat.le_trans SW.out HO.out.2.1.size
    by_cases hlt : i < n
    · have hltz : (i : Int) < (n : Int) := by omega
      obtain ⟨blk, off, rfl, hbl, hc⟩ := H.out (by rw [E.out.2]; omega)
      obtain ⟨x, hx⟩ : ∃ x, x = d[i]! := ⟨_, rfl⟩
      have c1 : wr.cell? ⟨blk, off + i, none⟩ = some (.int .u64 (x : Int)) := by
        rw [hx]; exact ((BW.out.trans HO.out.2.1).cell (p := ⟨blk, off + i, none⟩) hbl).trans (hc i (by rw [E.out.2]; exact hlt))
      have hfb := frombits_run x
      have O2 : Aside ((wr.alloc (.cells #[.float .f64 x] 86)).ownsRow w.heap.size 86 1 u3 i ((D.toList.take i).map eFl)) := own_below HO.out.1 (below_alloc _ _)
      have B2 : Aside (Below w.heap.size W (wr.alloc (.cells #[.float .f64 x] 86)) ∧ ¬ u3 = .slice none 0 0) := ⟨HO.out.2.1.alloc szr _, HO.out.2.2⟩
      have X : Aside ((D.toList.take (i + 1)).map eFl = (D.toList.take i).map eFl ++ [.float .f64 x]) := by
        show _ = _
        have hv : D[i]! = x := by rw [HD.out i hlt, ← hx]
        rw [List.take_succ_eq_append_getElem (by simp [E.out.1]; exact hlt), List.map_append, ← hv, getElem!_pos D i (by rw [E.out.1]; exact hlt)]
        rfl
      obtain ⟨hi, hz0, hz1, hz2⟩ := hI.out
      clear hc hx HO
      go_wp2_with (at_builtin; refine wpList_append_own _ rfl _ _ 83 rfl w.heap.size 86 i0 (.float .f64 0) 1 8 Try.underlying83 hi hz0 hz1 hz2 rfl (by decide) _ i _ rfl O2.out ⟨wr.heap.size, 0, none⟩ 1 1 [.float .f64 x] rfl rfl ?c1 ?c2 ?c3 ?c4 ?c5 ?_)
      case c1 =>
        intro j u hj
        match j, hj with
        | 0, hj => simp at hj; subst hj; simp [Addr.add, go_sem]
      case c2 => intro u hu; simp at hu; subst hu; rfl
      case c3 => unfold maxLen; omega
      case c4 => omega
      case c5 => simp; omega
      intro v' w2 hown' hgrow hnil
      have O3 : Aside (w2.ownsRow w.heap.size 86 1 v' (i + 1) ((D.toList.take (i + 1)).map eFl) ∧ Below w.heap.size W w2 ∧ ¬ v' = .slice none 0 0) := by
        refine ⟨?_, own_grown' O2.out B2.out.1 (Nat.le_refl _) (by simp; omega) hgrow, hnil⟩
        rw [X.out]
        simpa [List.map_take] using hown'
      clear hi hz0 hz1 hz2 c1 O2 B2 hown' hgrow hnil X hfb
      go_wp2_with fail
      go_roundg (n - (i + 1))
      case measure => omega
      case rel => exact ⟨i + 1, by go_num, by omega, Nat.le_refl _, O3⟩
    · have hltz : ¬ (i : Int) < (n : Int) := by omega
      have e0 : i = n := by omega
      subst e0
      obtain ⟨hO, hBr, hnn⟩ := HO.out
      have eL : (D.toList.take i).map eFl = D.toList.map eFl := by rw [← E.out.1, ← Array.length_toList, List.take_length]
      rw [eL] at hO
      rcases own_rowE eFl 86 hO with h | ⟨g, kc, rfl, hg1, hg2, hkc, hks⟩
      · exact absurd h hnn
      have R : Aside (w.heap.size ≤ g ∧ g < wr.heap.size ∧ Holds eFl wr g 0 D ∧ Below w.heap.size w wr) := ⟨hg1, hg2, by simpa using hks, BW.out.trans hBr⟩
      clear hO hBr hnn HO eL hks
      go_wp2_with fail
      go_ret
      exact ⟨g, kc, rfl, R.out⟩

set_option maxHeartbeats 2000000 in
set_option maxRecDepth 1000000 in
theorem integers_calls (a : Option Addr) (cap n : Nat) (d : Array Nat) (w : World) (h : RdU w a d) (hn : d.size = n) (hsz : n ≤ 2000) : Calls Try.prog 53 #[.slice a n cap] w (ConvTo eI w n (d.map toI)) := by
  obtain ⟨D, hD⟩ : ∃ D, D = (d.map toI) := ⟨_, rfl⟩
  have hDs : D.size = n := by rw [hD, Array.size_map]; exact hn
  rw [← hD]
  have HD : Aside (∀ i, i < n → D[i]! = toI d[i]!) := fun i hi => by rw [hD]; rw [getElem!_pos _ _ (by rw [Array.size_map, hn]; exact hi), getElem!_pos d i (by rw [hn]; exact hi)]; simp
  have E : Aside (D.size = n ∧ d.size = n) := ⟨hDs, hn⟩
  have H : Aside (RdU w a d) := h
  clear hD hDs h hn
  obtain ⟨i0, hi, hz0, hz1, hz2⟩ := info_parts (show (Try.prog.info? 2).map (fun i => (i.zero, i.size, i.bytes)) = some (some (.int .i64 0), 1, 8) by kernel_rfl)
  have hI : Aside (Try.prog.info? 2 = some i0 ∧ i0.zero = some (.int .i64 0) ∧ i0.size = 1 ∧ i0.bytes = 8) := ⟨hi, hz0, hz1, hz2⟩
  clear hi hz0 hz1 hz2
  obtain ⟨W, hW⟩ : ∃ W, W = w.alloc (.cells #[] 2) := ⟨_, rfl⟩
  have BW : Aside (Below w.heap.size w W) := by show Below _ _ _; rw [hW]; exact below_alloc _ _
  have OW : Aside (W.ownsRow w.heap.size 2 1 (.slice (some ⟨w.heap.size, 0, none⟩) 0 0) 0 ((D.toList.take 0).map eI)) := ⟨rfl, Or.inr ⟨_, 0, #[], rfl, Nat.le_refl _, by rw [hW]; exact heap_alloc_new _ _, Nat.le_refl _, by decide, rfl, rfl⟩⟩
  have SW : Aside (w.heap.size ≤ W.heap.size) := BW.out.size
  go_enter Try.func53, Try.ntmps53
  go_upto_region 2 with fail
  rw [← hW]
  clear hW
  go_wp2_with fail
  go_loopg [3, 9] n (fun g vk vi wr => ∃ i : Nat, vi = .int .i64 i ∧ i ≤ n ∧ n - i ≤ g ∧ Aside (wr.ownsRow w.heap.size 2 1 vk i ((D.toList.take i).map eI) ∧ Below w.heap.size W wr ∧ ¬ vk = .slice none 0 0))
  case atStart => exact ⟨0, rfl, Nat.zero_le _, by omega, OW.out, Below.refl _ _, by simp⟩
  case round =>
    clear OW
    obtain ⟨i, rfl, hin, hg, HO⟩ := hrel
    have szr := Nat.le_trans SW.out HO.out.2.1.size
    by_cases hlt : i < n
    · have hltz : (i : Int) < (n : Int) := by omega
      obtain ⟨blk, off, rfl, hbl, hc⟩ := H.out (by rw [E.out.2]; omega)
      obtain ⟨x, hx⟩ : ∃ x, x = d[i]! := ⟨_, rfl⟩
      have c1 : wr.cell? ⟨blk, off + i, none⟩ = some (.int .u64 (x : Int)) := by
        rw [hx]; exact ((BW.out.trans HO.out.2.1).cell (p := ⟨blk, off + i, none⟩) hbl).trans (hc i (by rw [E.out.2]; exact hlt))
      obtain ⟨y, hy⟩ : ∃ y, y = toI x := ⟨_, rfl⟩
      have hyw : IntKind.i64.wrap (x : Int) = y := hy.symm
      have O2 : Aside ((wr.alloc (.cells #[.int .i64 y] 2)).ownsRow w.heap.size 2 1 u3 i ((D.toList.take i).map eI)) := own_below HO.out.1 (below_alloc _ _)
      have B2 : Aside (Below w.heap.size W (wr.alloc (.cells #[.int .i64 y] 2)) ∧ ¬ u3 = .slice none 0 0) := ⟨HO.out.2.1.alloc szr _, HO.out.2.2⟩
      have X : Aside ((D.toList.take (i + 1)).map eI = (D.toList.take i).map eI ++ [.int .i64 y]) := by
        show _ = _
        have hv : D[i]! = y := by rw [HD.out i hlt, ← hx]; exact hy.symm
        rw [List.take_succ_eq_append_getElem (by simp [E.out.1]; exact hlt), List.map_append, ← hv, getElem!_pos D i (by rw [E.out.1]; exact hlt)]
        rfl
      obtain ⟨hi, hz0, hz1, hz2⟩ := hI.out
      clear hc hx HO hy
      go_wp2_with (at_builtin; refine wpList_append_own _ rfl _ _ 88 rfl w.heap.size 2 i0 (.int .i64 0) 1 8 Try.underlying88 hi hz0 hz1 hz2 rfl (by decide) _ i _ rfl O2.out ⟨wr.heap.size, 0, none⟩ 1 1 [.int .i64 y] rfl rfl ?c1 ?c2 ?c3 ?c4 ?c5 ?_)
      case c1 =>
        intro j u hj
        match j, hj with
        | 0, hj => simp at hj; subst hj; simp [Addr.add, go_sem]
      case c2 => intro u hu; simp at hu; subst hu; rfl
      case c3 => unfold maxLen; omega
      case c4 => omega
      case c5 => simp; omega
      intro v' w2 hown' hgrow hnil
      have O3 : Aside (w2.ownsRow w.heap.size 2 1 v' (i + 1) ((D.toList.take (i + 1)).map eI) ∧ Below w.heap.size W w2 ∧ ¬ v' = .slice none 0 0) := by
        refine ⟨?_, own_grown' O2.out B2.out.1 (Nat.le_refl _) (by simp; omega) hgrow, hnil⟩
        rw [X.out]
        simpa [List.map_take] using hown'
      clear hi hz0 hz1 hz2 c1 O2 B2 hown' hgrow hnil X hyw
      go_wp2_with fail
      go_roundg (n - (i + 1))
      case measure => omega
      case rel => exact ⟨i + 1, by go_num, by omega, Nat.le_refl _, O3⟩
    · have hltz : ¬ (i : Int) < (n : Int) := by omega
      have e0 : i = n := by omega
      subst e0
      obtain ⟨hO, hBr, hnn⟩ := HO.out
      have eL : (D.toList.take i).map eI = D.toList.map eI := by rw [← E.out.1, ← Array.length_toList, List.take_length]
      rw [eL] at hO
      rcases own_rowE eI 2 hO with h | ⟨g, kc, rfl, hg1, hg2, hkc, hks⟩
      · exact absurd h hnn
      have R : Aside (w.heap.size ≤ g ∧ g < wr.heap.size ∧ Holds eI wr g 0 D ∧ Below w.heap.size w wr) := ⟨hg1, hg2, by simpa using hks, BW.out.trans hBr⟩
      clear hO hBr hnn HO eL hks
      go_wp2_with fail
      go_ret
      exact ⟨g, kc, rfl, R.out⟩
end Go.Proofs.Ytglgmkikegbchaa
