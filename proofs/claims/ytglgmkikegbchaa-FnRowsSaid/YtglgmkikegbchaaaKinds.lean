/- container/list: each kind of step, as rowP says. -/
import Derived.Test.YtglgmkikegbchaaaMeth
import Derived.Test.YtglgmkikegbchaaaStep
namespace Go.Proofs.Ytglgmkikegbchaa
open Go.RowKit

section
variable {n0 : Nat} {w : World} {L : Nat} {E : Int → Nat} {m f : Int} {r m1 m2 l1 l2 : List Int} {a b : Int}

theorem MovR.refl (h : Lst vI LT n0 w L E m f r) : MovR n0 w L E m f r w := ⟨h, Fr.refl _ _ _⟩

theorem moveToFront_calls (h : Lst vI LT n0 w L E m f (l1 ++ a :: l2)) (e : Nat) (he : e = E a) :
    Calls Try.prog 67 #[vP L, vP e] w fun ev w' => ev = .returned (.tuple #[]) ∧ MovR n0 w L E m f (a :: (l1 ++ l2)) w' := by
  have ha := h.mem a (by simp)
  have h2 := h.lst a ha.1 ha.2
  rw [if_pos (by simp), ← he] at h2
  obtain ⟨N, P, hd, hcs⟩ := h.ring
  have hL := (hcs L List.mem_cons_self).1
  cases l1 with
  | nil =>
    have hx : N L = e := by rw [he]; exact hd.1
    rw [hx] at hL
    exact (moveToFront_stay L e w h2 hL).mono (by rintro ev w' ⟨rfl, rfl⟩; exact ⟨rfl, MovR.refl h⟩)
  | cons c l1 =>
    have hx : N L = E c := hd.1
    rw [hx] at hL
    have hc := h.inR (j := c) (by simp)
    have ha0 := h.inR (j := a) (by simp)
    have hne : E c ≠ e := fun e' => by
      have := h.inj c a hc.1 hc.2 ha0.1 ha0.2 (by rw [e', he])
      have hn := h.nd
      rw [this] at hn
      clear this hcs hd
      grind
    exact moveToFront_go L e (E c) w h2 hL (eqE_other (h.hE c hc.1 hc.2) (by rw [he]; exact h.hE a ha0.1 ha0.2) hne) _ (move_calls (m1 := []) (m2 := c :: l1 ++ l2) h rfl L e rfl he)

theorem moveToBack_calls (h : Lst vI LT n0 w L E m f (l1 ++ a :: l2)) (e : Nat) (he : e = E a) :
    Calls Try.prog 68 #[vP L, vP e] w fun ev w' => ev = .returned (.tuple #[]) ∧ MovR n0 w L E m f (l1 ++ l2 ++ [a]) w' := by
  have ha := h.mem a (by simp)
  have h2 := h.lst a ha.1 ha.2
  rw [if_pos (by simp), ← he] at h2
  obtain ⟨x, y, _, hy, hye⟩ := h.root
  rcases List.eq_nil_or_concat l2 with h' | ⟨l', c, h'⟩
  · subst h'
    have hx : y = e := by rw [hye, List.map_append, List.map_cons, List.map_nil, lastOf_snoc, he]
    rw [hx] at hy
    exact (moveToBack_stay L e w h2 hy).mono (by rintro ev w' ⟨rfl, rfl⟩; exact ⟨rfl, by rw [List.append_nil]; exact MovR.refl h⟩)
  · have h' : l2 = l' ++ [c] := by simpa using h'
    subst h'
    have hx : y = E c := by
      rw [hye, show l1 ++ a :: (l' ++ [c]) = (l1 ++ a :: l') ++ [c] by simp, List.map_append, List.map_cons, List.map_nil, lastOf_snoc]
    rw [hx] at hy
    have hc := h.inR (j := c) (by simp)
    have ha0 := h.inR (j := a) (by simp)
    have hne : E c ≠ e := fun e' => by
      have := h.inj c a hc.1 hc.2 ha0.1 ha0.2 (by rw [e', he])
      have hn := h.nd
      rw [this] at hn
      clear this
      grind
    exact moveToBack_go L e (E c) w h2 hy (eqE_other (h.hE c hc.1 hc.2) (by rw [he]; exact h.hE a ha0.1 ha0.2) hne) _ (move_calls (m1 := l1 ++ (l' ++ [c])) (m2 := []) h (by simp) (E c) e (by
      rw [show l1 ++ (l' ++ [c]) = (l1 ++ l') ++ [c] by simp, List.map_append, List.map_cons, List.map_nil, lastOf_snoc]) he)

theorem moveBefore_calls (h : Lst vI LT n0 w L E m f (l1 ++ a :: l2)) (hab : a ≠ b) (hr : l1 ++ l2 = m1 ++ b :: m2) (e c : Nat) (he : e = E a) (hc : c = E b) :
    Calls Try.prog 69 #[vP L, vP e, vP c] w fun ev w' => ev = .returned (.tuple #[]) ∧ MovR n0 w L E m f (m1 ++ a :: b :: m2) w' := by
  have ha := h.mem a (by simp)
  have h2 := h.lst a ha.1 ha.2
  rw [if_pos (by simp), ← he] at h2
  have hbm : b ∈ l1 ++ a :: l2 := by
    have : b ∈ l1 ++ l2 := by rw [hr]; simp
    simp at this ⊢
    rcases this with h | h
    · exact Or.inl h
    · exact Or.inr (Or.inr h)
  have hb := h.mem b hbm
  have h3 := h.lst b hb.1 hb.2
  rw [if_pos hbm, ← hc] at h3
  have hb0 := h.inR hbm
  have ha0 := h.inR (j := a) (by simp)
  have hne : e ≠ c := fun e' => hab (h.inj a b ha0.1 ha0.2 hb0.1 hb0.2 (by rw [← he, ← hc, e']))
  have q := eqE_other (w := w) (by rw [he]; exact h.hE a ha0.1 ha0.2 : Nd LT n0 4 w e) (by rw [hc]; exact h.hE b hb0.1 hb0.2 : Nd LT n0 4 w c) hne
  have key : ∀ k1 k2, l1 ++ a :: l2 = k1 ++ b :: k2 → (lastOf L (k1.map E) = e ∧ m1 ++ a :: b :: m2 = l1 ++ a :: l2 ∨ lastOf L (k1.map E) = lastOf L (m1.map E)) →
      Calls Try.prog 69 #[vP L, vP e, vP c] w fun ev w' => ev = .returned (.tuple #[]) ∧ MovR n0 w L E m f (m1 ++ a :: b :: m2) w' := by
    intro k1 k2 hk hor
    have h' := h
    rw [hk] at h'
    obtain ⟨x, y, _, hy, hye, _⟩ := h'.elem
    rw [← hc] at hy
    rcases hor with ⟨e1, e2⟩ | e1
    · rw [e1] at hye
      rw [e2]
      rw [hye] at hy
      exact moveBefore_go L e c e w h2 q h3 hy _ ((move_same L e w).mono (by rintro ev w' ⟨rfl, rfl⟩; exact ⟨rfl, MovR.refl h⟩))
    · exact moveBefore_go L e c y w h2 q h3 hy _ (move_calls h hr y e (by rw [hye, e1]) he)
  rcases List.append_eq_append_iff.1 hr with ⟨t, e1, e2⟩ | ⟨t, e1, e2⟩
  · -- m1 = l1 ++ t, l2 = t ++ b :: m2
    subst e1
    subst e2
    refine key (l1 ++ a :: t) m2 (by simp) ?_
    rcases List.eq_nil_or_concat t with h' | ⟨t', z, h'⟩
    · subst h'
      left
      exact ⟨by rw [List.map_append, List.map_cons, List.map_nil, lastOf_snoc, he], by simp⟩
    · have h' : t = t' ++ [z] := by simpa using h'
      subst h'
      right
      rw [show l1 ++ a :: (t' ++ [z]) = (l1 ++ a :: t') ++ [z] by simp, show l1 ++ (t' ++ [z]) = (l1 ++ t') ++ [z] by simp, List.map_append, List.map_cons, List.map_nil, lastOf_snoc, List.map_append, List.map_cons, List.map_nil, lastOf_snoc]
  · -- l1 = m1 ++ t, b :: m2 = t ++ l2
    cases t with
    | nil =>
      simp only [List.append_nil] at e1
      simp only [List.nil_append] at e2
      subst e1
      subst e2
      refine key (l1 ++ [a]) m2 (by simp) (Or.inl ⟨by rw [List.map_append, List.map_cons, List.map_nil, lastOf_snoc, he], rfl⟩)
    | cons z t =>
      simp only [List.cons_append, List.cons.injEq] at e2
      obtain ⟨rfl, rfl⟩ := e2
      subst e1
      exact key m1 (t ++ a :: l2) (by simp) (Or.inr rfl)

theorem moveAfter_calls (h : Lst vI LT n0 w L E m f (l1 ++ a :: l2)) (hab : a ≠ b) (hr : l1 ++ l2 = m1 ++ b :: m2) (e c : Nat) (he : e = E a) (hc : c = E b) :
    Calls Try.prog 70 #[vP L, vP e, vP c] w fun ev w' => ev = .returned (.tuple #[]) ∧ MovR n0 w L E m f (m1 ++ b :: a :: m2) w' := by
  have ha := h.mem a (by simp)
  have h2 := h.lst a ha.1 ha.2
  rw [if_pos (by simp), ← he] at h2
  have hbm : b ∈ l1 ++ a :: l2 := by
    have : b ∈ l1 ++ l2 := by rw [hr]; simp
    simp at this ⊢
    rcases this with h | h
    · exact Or.inl h
    · exact Or.inr (Or.inr h)
  have hb := h.mem b hbm
  have h3 := h.lst b hb.1 hb.2
  rw [if_pos hbm, ← hc] at h3
  have hb0 := h.inR hbm
  have ha0 := h.inR (j := a) (by simp)
  have hne : e ≠ c := fun e' => hab (h.inj a b ha0.1 ha0.2 hb0.1 hb0.2 (by rw [← he, ← hc, e']))
  have q := eqE_other (w := w) (by rw [he]; exact h.hE a ha0.1 ha0.2 : Nd LT n0 4 w e) (by rw [hc]; exact h.hE b hb0.1 hb0.2 : Nd LT n0 4 w c) hne
  have k := move_calls (m1 := m1 ++ [b]) (m2 := m2) h (by rw [hr]; simp) c e (by rw [List.map_append, List.map_cons, List.map_nil, lastOf_snoc, hc]) he
  rw [show m1 ++ [b] ++ a :: m2 = m1 ++ b :: a :: m2 by simp] at k
  exact moveAfter_go L e c w h2 q h3 _ k

set_option maxHeartbeats 4000000 in
set_option maxRecDepth 1000000 in
theorem init_calls (L : Nat) (x y z : Value) (w : World) (h0 : w.cell? ⟨L, 0, none⟩ = some x) (h1 : w.cell? ⟨L, 1, none⟩ = some y) (h2 : w.cell? ⟨L, 4, none⟩ = some z) (fL : ∀ i, w.frozen? ⟨L, i, none⟩ = false) :
    Calls Try.prog 71 #[vP L] w fun ev w' => ev = .returned (vP L) ∧ w' = ((w.setCell ⟨L, 0, none⟩ (vP L)).setCell ⟨L, 1, none⟩ (vP L)).setCell ⟨L, 4, none⟩ (.int .i64 0) := by
  go_enter Try.func71, Try.ntmps71
  go_wp2_with fail
  go_ret
  exact ⟨rfl, rfl⟩

theorem clear_calls (h : Lst vI LT n0 w L E m f r) : Calls Try.prog 71 #[vP L] w fun ev w' => ev = .returned (vP L) ∧ MovR n0 w L E m m [] w' := by
  obtain ⟨x, hx⟩ := h.hL.cell (i := 0) (by decide)
  obtain ⟨y, hy⟩ := h.hL.cell (i := 1) (by decide)
  exact (init_calls L x y _ w hx hy h.len h.hL.frozen).mono (by rintro ev w' ⟨rfl, rfl⟩; exact ⟨rfl, h.clear⟩)

set_option maxHeartbeats 4000000 in
set_option maxRecDepth 1000000 in
/-- A new list. -/
theorem new_calls (w : World) (hn : n0 ≤ w.heap.size) : Calls Try.prog 60 #[] w fun ev w' => ∃ L, ev = .returned (vP L) ∧ MovR n0 w L (fun _ => 0) 0 0 [] w' := by
  have hz : w.heap.size < (w.alloc (.cells #[vNil, vNil, vNil, .nilIface, .int .i64 0] 130)).heap.size := by simp
  have hnew := heap_alloc_new w (.cells #[vNil, vNil, vNil, .nilIface, .int .i64 0] 130)
  have hLd : Nd LT n0 5 (w.alloc (.cells #[vNil, vNil, vNil, .nilIface, .int .i64 0] 130)) w.heap.size := ⟨hn, _, _, hnew, by simp, Or.inl rfl⟩
  have C : Aside (Calls Try.prog 71 #[vP w.heap.size] (w.alloc (.cells #[vNil, vNil, vNil, .nilIface, .int .i64 0] 130)) fun ev w' => ev = .returned (vP w.heap.size) ∧ MovR n0 w w.heap.size (fun _ => 0) 0 0 [] w') := by
    refine (init_calls w.heap.size vNil vNil (.int .i64 0) _ (cell_of_row _ _ 0 _ _ _ hnew) (cell_of_row _ _ 1 _ _ _ hnew) (cell_of_row _ _ 4 _ _ _ hnew) hLd.frozen).mono ?_
    rintro ev w' ⟨rfl, rfl⟩
    refine ⟨rfl, ?_, ?_⟩
    · generalize hL : w.heap.size = L at hLd hnew ⊢
      generalize w.alloc (.cells #[vNil, vNil, vNil, .nilIface, .int .i64 0] 130) = W at hLd hnew ⊢
      have hcell : ∀ b i, (((W.setCell ⟨L, 0, none⟩ (vP L)).setCell ⟨L, 1, none⟩ (vP L)).setCell ⟨L, 4, none⟩ (.int .i64 0)).cell? ⟨b, i, none⟩ =
          if b = L ∧ i = 4 then some (.int .i64 0) else if b = L ∧ i = 1 then some (vP L) else if b = L ∧ i = 0 then some (vP L) else W.cell? ⟨b, i, none⟩ := fun b i => by
        rw [cs2 (((hLd.set _ _ _).set _ _ _).isSome (by decide)), cs2 ((hLd.set _ _ _).isSome (by decide)), cs2 (hLd.isSome (by decide))]
      refine ⟨((hLd.set _ _ _).set _ _ _).set _ _ _, fun j h0 h1 => by omega, fun i j h0 h1 => by omega, fun j h0 h1 => by omega, by rw [hcell, if_pos ⟨rfl, rfl⟩]; rfl, List.nodup_nil, fun j hj => by simp at hj, by omega, ⟨fun _ => L, fun _ => L, ⟨rfl, rfl⟩, fun b hb => ?_⟩, fun j h0 h1 => by omega, fun j h0 h1 => by omega⟩
      obtain rfl : b = L := by simpa using hb
      rw [hcell, hcell, if_neg (by omega), if_neg (by omega), if_pos ⟨rfl, rfl⟩, if_neg (by omega), if_pos ⟨rfl, rfl⟩]
      exact ⟨rfl, rfl⟩
    · have h1 : Fr LT n0 w (w.alloc (.cells #[vNil, vNil, vNil, .nilIface, .int .i64 0] 130)) := (Fr.refl _ _ _).alloc _
      exact h1.trans ((((Fr.refl _ _ _).set hLd _ _).set hLd _ _).set hLd _ _)
  clear hz hnew hLd
  go_enter Try.func60, Try.ntmps60
  go_wp2_with (refine C.out.mono ?_; rintro ev wz ⟨rfl, hwz⟩)
  go_ret
  exact ⟨_, rfl, hwz⟩

set_option maxHeartbeats 4000000 in
set_option maxRecDepth 1000000 in
theorem front_nil (L : Nat) (w : World) (h : w.cell? ⟨L, 4, none⟩ = some (.int .i64 0)) : Calls Try.prog 72 #[vP L] w fun ev w' => ev = .returned vNil ∧ w' = w := by
  go_enter Try.func72, Try.ntmps72
  go_wp2_with fail
  go_ret
  exact ⟨rfl, rfl⟩
set_option maxHeartbeats 4000000 in
set_option maxRecDepth 1000000 in
theorem front_cons (L x : Nat) (n : Int) (w : World) (h : w.cell? ⟨L, 4, none⟩ = some (.int .i64 n)) (hn : n ≠ 0) (h0 : w.cell? ⟨L, 0, none⟩ = some (vP x)) : Calls Try.prog 72 #[vP L] w fun ev w' => ev = .returned (vP x) ∧ w' = w := by
  go_enter Try.func72, Try.ntmps72
  go_wp2_with fail
  go_ret
  exact ⟨rfl, rfl⟩
set_option maxHeartbeats 4000000 in
set_option maxRecDepth 1000000 in
theorem next_end (L e : Nat) (w : World) (h2 : w.cell? ⟨e, 2, none⟩ = some (vP L)) (h0 : w.cell? ⟨e, 0, none⟩ = some (vP L)) : Calls Try.prog 73 #[vP e] w fun ev w' => ev = .returned vNil ∧ w' = w := by
  have q := neL_nil w L
  have q2 := neE_same w L
  go_enter Try.func73, Try.ntmps73
  go_wp2_with fail
  go_ret
  exact ⟨rfl, rfl⟩
set_option maxHeartbeats 4000000 in
set_option maxRecDepth 1000000 in
theorem next_on (L e x : Nat) (w : World) (h2 : w.cell? ⟨e, 2, none⟩ = some (vP L)) (h0 : w.cell? ⟨e, 0, none⟩ = some (vP x)) (q2 : (binOp .neq 100 (vP x) (vP L)).run Try.prog w = .ok (.bool true) w) : Calls Try.prog 73 #[vP e] w fun ev w' => ev = .returned (vP x) ∧ w' = w := by
  have q := neL_nil w L
  go_enter Try.func73, Try.ntmps73
  go_wp2_with fail
  go_ret
  exact ⟨rfl, rfl⟩
end
end Go.Proofs.Ytglgmkikegbchaa
