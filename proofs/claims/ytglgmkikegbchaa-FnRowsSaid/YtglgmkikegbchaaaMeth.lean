/- container/list: the methods that steps call, over a row of numbers. -/
import Derived.Test.YtglgmkikegbchaaaMove
namespace Go.Proofs.Ytglgmkikegbchaa
open Go.RowKit

section
variable {n0 : Nat} {w : World} {L : Nat} {E : Int → Nat} {m f : Int} {r m1 m2 l1 l2 : List Int} {j : Int}

theorem Lst.root (h : Lst vI LT n0 w L E m f r) : ∃ x y : Nat, w.cell? ⟨L, 0, none⟩ = some (vP x) ∧ w.cell? ⟨L, 1, none⟩ = some (vP y) ∧ y = lastOf L (r.map E) := by
  obtain ⟨N, P, hd, hcs⟩ := h.ring
  exact ⟨N L, P L, (hcs L List.mem_cons_self).1, (hcs L List.mem_cons_self).2, (dbl_end hd).1⟩
/-- An element's cells. -/
theorem Lst.elem (h : Lst vI LT n0 w L E m f (l1 ++ j :: l2)) : ∃ x y : Nat, w.cell? ⟨E j, 0, none⟩ = some (vP x) ∧ w.cell? ⟨E j, 1, none⟩ = some (vP y) ∧ y = lastOf L (l1.map E) ∧ x = (l2.map E ++ [L]).head! := by
  obtain ⟨N, P, hd, hcs⟩ := h.ring
  have hem : E j ∈ L :: (l1 ++ j :: l2).map E := List.mem_cons_of_mem _ (List.mem_map.2 ⟨j, by simp, rfl⟩)
  refine ⟨N (E j), P (E j), (hcs _ hem).1, (hcs _ hem).2, ?_, ?_⟩
  · rw [List.map_append, List.map_cons] at hd
    exact (dbl_at hd).1
  · rw [List.map_append, List.map_cons] at hd
    have := ((dbl_append _ _ _ _ _).1 hd).2
    cases l2 with
    | nil => exact this.1
    | cons y l => exact this.1

set_option maxHeartbeats 4000000 in
set_option maxRecDepth 1000000 in
theorem lazyInit_calls (L x : Nat) (w : World) (hx : w.cell? ⟨L, 0, none⟩ = some (vP x)) : Calls Try.prog 88 #[vP L] w fun ev w' => ev = .returned (.tuple #[]) ∧ w' = w := by
  have q := eqE_nil w x
  go_enter Try.func88, Try.ntmps88
  go_wp2_with fail
  go_end0
  exact ⟨rfl, rfl⟩

set_option maxHeartbeats 4000000 in
set_option maxRecDepth 1000000 in
theorem pushFront_calls (h : Lst vI LT n0 w L E m f r) (hl : r.length ≤ 1000) :
    Calls Try.prog 62 #[vP L, vI m] w fun ev w' => ∃ e, ev = .returned (vP e) ∧ PutR n0 w L E m f (m :: r) e w' := by
  obtain ⟨x, y, hx, hy, _⟩ := h.root
  have C1 : Aside (Calls Try.prog 88 #[vP L] w fun ev w' => ev = .returned (.tuple #[]) ∧ w' = w) := lazyInit_calls L x w hx
  have C2 : Aside (Calls Try.prog 89 #[vP L, vI m, vP L] w fun ev w' => ∃ e, ev = .returned (vP e) ∧ PutR n0 w L E m f ([] ++ m :: r) e w') := insertValue_calls (m1 := []) (m2 := r) h L rfl hl
  clear h hx hy
  go_enter Try.func62, Try.ntmps62
  go_wp2_with (first | (refine C1.out.mono ?_; rintro ev wz ⟨rfl, hwz⟩; subst hwz) | (refine C2.out.mono ?_; rintro ev wz ⟨e, rfl, hwz⟩))
  go_ret
  exact ⟨_, rfl, hwz⟩

set_option maxHeartbeats 4000000 in
set_option maxRecDepth 1000000 in
theorem pushBack_calls (h : Lst vI LT n0 w L E m f r) (hl : r.length ≤ 1000) :
    Calls Try.prog 63 #[vP L, vI m] w fun ev w' => ∃ e, ev = .returned (vP e) ∧ PutR n0 w L E m f (r ++ [m]) e w' := by
  obtain ⟨x, y, hx, hy, hye⟩ := h.root
  have C1 : Aside (Calls Try.prog 88 #[vP L] w fun ev w' => ev = .returned (.tuple #[]) ∧ w' = w) := lazyInit_calls L x w hx
  have C2 : Aside (Calls Try.prog 89 #[vP L, vI m, vP y] w fun ev w' => ∃ e, ev = .returned (vP e) ∧ PutR n0 w L E m f (r ++ [m]) e w') := insertValue_calls (m1 := r) (m2 := []) (by rw [List.append_nil]; exact h) y hye (by rw [List.append_nil]; exact hl)
  clear h hx hye
  go_enter Try.func63, Try.ntmps63
  go_wp2_with (first | (refine C1.out.mono ?_; rintro ev wz ⟨rfl, hwz⟩; subst hwz) | (refine C2.out.mono ?_; rintro ev wz ⟨e, rfl, hwz⟩))
  go_ret
  exact ⟨_, rfl, hwz⟩

set_option maxHeartbeats 4000000 in
set_option maxRecDepth 1000000 in
theorem insertBefore_calls (h : Lst vI LT n0 w L E m f (l1 ++ j :: l2)) (hl : (l1 ++ j :: l2).length ≤ 1000) (e : Nat) (he : e = E j) :
    Calls Try.prog 64 #[vP L, vI m, vP e] w fun ev w' => ∃ e', ev = .returned (vP e') ∧ PutR n0 w L E m f (l1 ++ m :: j :: l2) e' w' := by
  obtain ⟨x, y, hx, hy, hye, _⟩ := h.elem
  have hj := h.mem j (by simp)
  have h2 := h.lst j hj.1 hj.2
  rw [if_pos (by simp)] at h2
  rw [← he] at h2 hy
  have q := neL_same w L
  have C2 : Aside (Calls Try.prog 89 #[vP L, vI m, vP y] w fun ev w' => ∃ e, ev = .returned (vP e) ∧ PutR n0 w L E m f (l1 ++ m :: j :: l2) e w') := insertValue_calls (m1 := l1) (m2 := j :: l2) h y hye hl
  clear h hx hye he hj
  go_enter Try.func64, Try.ntmps64
  go_wp2_with (refine C2.out.mono ?_; rintro ev wz ⟨e, rfl, hwz⟩)
  go_ret
  exact ⟨_, rfl, hwz⟩

set_option maxHeartbeats 4000000 in
set_option maxRecDepth 1000000 in
theorem insertBefore_out (L e : Nat) (v : Value) (w : World) (h2 : w.cell? ⟨e, 2, none⟩ = some vNil) :
    Calls Try.prog 64 #[vP L, v, vP e] w fun ev w' => ev = .returned vNil ∧ w' = w := by
  have q := nilL_ne w L
  go_enter Try.func64, Try.ntmps64
  go_wp2_with fail
  go_ret
  exact ⟨rfl, rfl⟩

set_option maxHeartbeats 4000000 in
set_option maxRecDepth 1000000 in
theorem insertAfter_calls (h : Lst vI LT n0 w L E m f (l1 ++ j :: l2)) (hl : (l1 ++ j :: l2).length ≤ 1000) (e : Nat) (he : e = E j) :
    Calls Try.prog 65 #[vP L, vI m, vP e] w fun ev w' => ∃ e', ev = .returned (vP e') ∧ PutR n0 w L E m f (l1 ++ j :: m :: l2) e' w' := by
  have hj := h.mem j (by simp)
  have h2 := h.lst j hj.1 hj.2
  rw [if_pos (by simp)] at h2
  rw [← he] at h2
  have q := neL_same w L
  have C2 := insertValue_calls (m1 := l1 ++ [j]) (m2 := l2) (by simpa using h) e (by rw [List.map_append, List.map_cons, List.map_nil, lastOf_snoc]; exact he) (by simpa using hl)
  simp only [List.append_assoc, List.cons_append, List.nil_append] at C2
  replace C2 : Aside (Calls Try.prog 89 #[vP L, vI m, vP e] w fun ev w' => ∃ e, ev = .returned (vP e) ∧ PutR n0 w L E m f (l1 ++ j :: m :: l2) e w') := C2
  clear h he hj
  go_enter Try.func65, Try.ntmps65
  go_wp2_with (refine C2.out.mono ?_; rintro ev wz ⟨e, rfl, hwz⟩)
  go_ret
  exact ⟨_, rfl, hwz⟩

set_option maxHeartbeats 4000000 in
set_option maxRecDepth 1000000 in
theorem insertAfter_out (L e : Nat) (v : Value) (w : World) (h2 : w.cell? ⟨e, 2, none⟩ = some vNil) :
    Calls Try.prog 65 #[vP L, v, vP e] w fun ev w' => ev = .returned vNil ∧ w' = w := by
  have q := nilL_ne w L
  go_enter Try.func65, Try.ntmps65
  go_wp2_with fail
  go_ret
  exact ⟨rfl, rfl⟩

set_option maxHeartbeats 4000000 in
set_option maxRecDepth 1000000 in
theorem remove_out (L e : Nat) (v : Value) (w : World) (h2 : w.cell? ⟨e, 2, none⟩ = some vNil) (h3 : w.cell? ⟨e, 3, none⟩ = some v) :
    Calls Try.prog 66 #[vP L, vP e] w fun ev w' => (∃ v, ev = .returned v) ∧ w' = w := by
  have q := nilL_eq w L
  go_enter Try.func66, Try.ntmps66
  go_wp2_with fail
  go_ret
  exact ⟨⟨_, rfl⟩, rfl⟩

set_option maxHeartbeats 4000000 in
set_option maxRecDepth 1000000 in
theorem removeM_calls (h : Lst vI LT n0 w L E m f (l1 ++ j :: l2)) (hl : (l1 ++ j :: l2).length ≤ 1000) (e : Nat) (he : e = E j) :
    Calls Try.prog 66 #[vP L, vP e] w fun ev w' => (∃ v, ev = .returned v) ∧ MovR n0 w L E m f (l1 ++ l2) w' := by
  have hj := h.mem j (by simp)
  have hj0 := h.inR (j := j) (by simp)
  have h2 := h.lst j hj.1 hj.2
  rw [if_pos (by simp)] at h2
  rw [← he] at h2
  have q := eqL_same w L
  have C2 : Aside (Calls Try.prog 90 #[vP L, vP e] w fun ev w' => ev = .returned (.tuple #[]) ∧ w'.cell? ⟨e, 3, none⟩ = some (vI j) ∧ MovR n0 w L E m f (l1 ++ l2) w') :=
    (removeL_calls h hl e he).mono (fun ev w' ⟨k1, k2⟩ => ⟨k1, by rw [he]; exact k2.1.val j hj0.1 hj0.2, k2⟩)
  clear h he hj hj0
  go_enter Try.func66, Try.ntmps66
  go_wp2_with (refine C2.out.mono ?_; rintro ev wz ⟨rfl, hv, hwz⟩)
  go_ret
  exact ⟨⟨_, rfl⟩, hwz⟩


set_option maxHeartbeats 4000000 in
set_option maxRecDepth 1000000 in
theorem moveToFront_out (L e : Nat) (w : World) (h2 : w.cell? ⟨e, 2, none⟩ = some vNil) :
    Calls Try.prog 67 #[vP L, vP e] w fun ev w' => ev = .returned (.tuple #[]) ∧ w' = w := by
  have q := nilL_ne w L
  go_enter Try.func67, Try.ntmps67
  go_wp2_with fail
  all_goals (first | (go_end0; exact ⟨rfl, rfl⟩) | ((try simp only [Exit.inBlock, Exit.then]); refine bodyPost_ret (results_none rfl _ _ _) rfl ?_; exact ⟨rfl, rfl⟩))

set_option maxHeartbeats 4000000 in
set_option maxRecDepth 1000000 in
theorem moveToFront_stay (L e : Nat) (w : World) (h2 : w.cell? ⟨e, 2, none⟩ = some (vP L)) (hx : w.cell? ⟨L, 0, none⟩ = some (vP e)) :
    Calls Try.prog 67 #[vP L, vP e] w fun ev w' => ev = .returned (.tuple #[]) ∧ w' = w := by
  have q := neL_same w L
  have q2 := eqE_same w e
  go_enter Try.func67, Try.ntmps67
  go_wp2_with fail
  all_goals (first | (go_end0; exact ⟨rfl, rfl⟩) | ((try simp only [Exit.inBlock, Exit.then]); refine bodyPost_ret (results_none rfl _ _ _) rfl ?_; exact ⟨rfl, rfl⟩))

set_option maxHeartbeats 4000000 in
set_option maxRecDepth 1000000 in
theorem moveToFront_go (L e x : Nat) (w : World) (h2 : w.cell? ⟨e, 2, none⟩ = some (vP L)) (hx : w.cell? ⟨L, 0, none⟩ = some (vP x)) (q2 : (binOp .eql 100 (vP x) (vP e)).run Try.prog w = .ok (.bool false) w) (Q : World → Prop)
    (C : Aside (Calls Try.prog 91 #[vP L, vP e, vP L] w fun ev w' => ev = .returned (.tuple #[]) ∧ Q w')) :
    Calls Try.prog 67 #[vP L, vP e] w fun ev w' => ev = .returned (.tuple #[]) ∧ Q w' := by
  have q := neL_same w L
  go_enter Try.func67, Try.ntmps67
  go_wp2_with (refine C.out.mono ?_; rintro ev wz ⟨rfl, hwz⟩)
  all_goals (first | (go_end0; exact ⟨rfl, hwz⟩) | ((try simp only [Exit.inBlock, Exit.then]); refine bodyPost_ret (results_none rfl _ _ _) rfl ?_; exact ⟨rfl, hwz⟩))

set_option maxHeartbeats 4000000 in
set_option maxRecDepth 1000000 in
theorem moveToBack_out (L e : Nat) (w : World) (h2 : w.cell? ⟨e, 2, none⟩ = some vNil) :
    Calls Try.prog 68 #[vP L, vP e] w fun ev w' => ev = .returned (.tuple #[]) ∧ w' = w := by
  have q := nilL_ne w L
  go_enter Try.func68, Try.ntmps68
  go_wp2_with fail
  all_goals (first | (go_end0; exact ⟨rfl, rfl⟩) | ((try simp only [Exit.inBlock, Exit.then]); refine bodyPost_ret (results_none rfl _ _ _) rfl ?_; exact ⟨rfl, rfl⟩))

set_option maxHeartbeats 4000000 in
set_option maxRecDepth 1000000 in
theorem moveToBack_stay (L e : Nat) (w : World) (h2 : w.cell? ⟨e, 2, none⟩ = some (vP L)) (hx : w.cell? ⟨L, 1, none⟩ = some (vP e)) :
    Calls Try.prog 68 #[vP L, vP e] w fun ev w' => ev = .returned (.tuple #[]) ∧ w' = w := by
  have q := neL_same w L
  have q2 := eqE_same w e
  go_enter Try.func68, Try.ntmps68
  go_wp2_with fail
  all_goals (first | (go_end0; exact ⟨rfl, rfl⟩) | ((try simp only [Exit.inBlock, Exit.then]); refine bodyPost_ret (results_none rfl _ _ _) rfl ?_; exact ⟨rfl, rfl⟩))

set_option maxHeartbeats 4000000 in
set_option maxRecDepth 1000000 in
theorem moveToBack_go (L e x : Nat) (w : World) (h2 : w.cell? ⟨e, 2, none⟩ = some (vP L)) (hx : w.cell? ⟨L, 1, none⟩ = some (vP x)) (q2 : (binOp .eql 100 (vP x) (vP e)).run Try.prog w = .ok (.bool false) w) (Q : World → Prop)
    (C : Aside (Calls Try.prog 91 #[vP L, vP e, vP x] w fun ev w' => ev = .returned (.tuple #[]) ∧ Q w')) :
    Calls Try.prog 68 #[vP L, vP e] w fun ev w' => ev = .returned (.tuple #[]) ∧ Q w' := by
  have q := neL_same w L
  go_enter Try.func68, Try.ntmps68
  go_wp2_with (refine C.out.mono ?_; rintro ev wz ⟨rfl, hwz⟩)
  all_goals (first | (go_end0; exact ⟨rfl, hwz⟩) | ((try simp only [Exit.inBlock, Exit.then]); refine bodyPost_ret (results_none rfl _ _ _) rfl ?_; exact ⟨rfl, hwz⟩))

set_option maxHeartbeats 4000000 in
set_option maxRecDepth 1000000 in
theorem moveBefore_out (L e b : Nat) (w : World) (h2 : w.cell? ⟨e, 2, none⟩ = some vNil) :
    Calls Try.prog 69 #[vP L, vP e, vP b] w fun ev w' => ev = .returned (.tuple #[]) ∧ w' = w := by
  have q := nilL_ne w L
  go_enter Try.func69, Try.ntmps69
  go_wp2_with fail
  all_goals (first | (go_end0; exact ⟨rfl, rfl⟩) | ((try simp only [Exit.inBlock, Exit.then]); refine bodyPost_ret (results_none rfl _ _ _) rfl ?_; exact ⟨rfl, rfl⟩))

set_option maxHeartbeats 4000000 in
set_option maxRecDepth 1000000 in
theorem moveBefore_same (L e : Nat) (w : World) (h2 : w.cell? ⟨e, 2, none⟩ = some (vP L)) :
    Calls Try.prog 69 #[vP L, vP e, vP e] w fun ev w' => ev = .returned (.tuple #[]) ∧ w' = w := by
  have q := neL_same w L
  have q2 := eqE_same w e
  go_enter Try.func69, Try.ntmps69
  go_wp2_with fail
  all_goals (first | (go_end0; exact ⟨rfl, rfl⟩) | ((try simp only [Exit.inBlock, Exit.then]); refine bodyPost_ret (results_none rfl _ _ _) rfl ?_; exact ⟨rfl, rfl⟩))

set_option maxHeartbeats 4000000 in
set_option maxRecDepth 1000000 in
theorem moveBefore_off (L e b : Nat) (w : World) (h2 : w.cell? ⟨e, 2, none⟩ = some (vP L)) (q2 : (binOp .eql 100 (vP e) (vP b)).run Try.prog w = .ok (.bool false) w) (h3 : w.cell? ⟨b, 2, none⟩ = some vNil) :
    Calls Try.prog 69 #[vP L, vP e, vP b] w fun ev w' => ev = .returned (.tuple #[]) ∧ w' = w := by
  have q := neL_same w L
  have q3 := nilL_ne w L
  go_enter Try.func69, Try.ntmps69
  go_wp2_with fail
  all_goals (first | (go_end0; exact ⟨rfl, rfl⟩) | ((try simp only [Exit.inBlock, Exit.then]); refine bodyPost_ret (results_none rfl _ _ _) rfl ?_; exact ⟨rfl, rfl⟩))

set_option maxHeartbeats 4000000 in
set_option maxRecDepth 1000000 in
theorem moveBefore_go (L e b y : Nat) (w : World) (h2 : w.cell? ⟨e, 2, none⟩ = some (vP L)) (q2 : (binOp .eql 100 (vP e) (vP b)).run Try.prog w = .ok (.bool false) w) (h3 : w.cell? ⟨b, 2, none⟩ = some (vP L)) (h4 : w.cell? ⟨b, 1, none⟩ = some (vP y)) (Q : World → Prop)
    (C : Aside (Calls Try.prog 91 #[vP L, vP e, vP y] w fun ev w' => ev = .returned (.tuple #[]) ∧ Q w')) :
    Calls Try.prog 69 #[vP L, vP e, vP b] w fun ev w' => ev = .returned (.tuple #[]) ∧ Q w' := by
  have q := neL_same w L
  go_enter Try.func69, Try.ntmps69
  go_wp2_with (refine C.out.mono ?_; rintro ev wz ⟨rfl, hwz⟩)
  all_goals (first | (go_end0; exact ⟨rfl, hwz⟩) | ((try simp only [Exit.inBlock, Exit.then]); refine bodyPost_ret (results_none rfl _ _ _) rfl ?_; exact ⟨rfl, hwz⟩))

set_option maxHeartbeats 4000000 in
set_option maxRecDepth 1000000 in
theorem moveAfter_out (L e b : Nat) (w : World) (h2 : w.cell? ⟨e, 2, none⟩ = some vNil) :
    Calls Try.prog 70 #[vP L, vP e, vP b] w fun ev w' => ev = .returned (.tuple #[]) ∧ w' = w := by
  have q := nilL_ne w L
  go_enter Try.func70, Try.ntmps70
  go_wp2_with fail
  all_goals (first | (go_end0; exact ⟨rfl, rfl⟩) | ((try simp only [Exit.inBlock, Exit.then]); refine bodyPost_ret (results_none rfl _ _ _) rfl ?_; exact ⟨rfl, rfl⟩))

set_option maxHeartbeats 4000000 in
set_option maxRecDepth 1000000 in
theorem moveAfter_same (L e : Nat) (w : World) (h2 : w.cell? ⟨e, 2, none⟩ = some (vP L)) :
    Calls Try.prog 70 #[vP L, vP e, vP e] w fun ev w' => ev = .returned (.tuple #[]) ∧ w' = w := by
  have q := neL_same w L
  have q2 := eqE_same w e
  go_enter Try.func70, Try.ntmps70
  go_wp2_with fail
  all_goals (first | (go_end0; exact ⟨rfl, rfl⟩) | ((try simp only [Exit.inBlock, Exit.then]); refine bodyPost_ret (results_none rfl _ _ _) rfl ?_; exact ⟨rfl, rfl⟩))

set_option maxHeartbeats 4000000 in
set_option maxRecDepth 1000000 in
theorem moveAfter_off (L e b : Nat) (w : World) (h2 : w.cell? ⟨e, 2, none⟩ = some (vP L)) (q2 : (binOp .eql 100 (vP e) (vP b)).run Try.prog w = .ok (.bool false) w) (h3 : w.cell? ⟨b, 2, none⟩ = some vNil) :
    Calls Try.prog 70 #[vP L, vP e, vP b] w fun ev w' => ev = .returned (.tuple #[]) ∧ w' = w := by
  have q := neL_same w L
  have q3 := nilL_ne w L
  go_enter Try.func70, Try.ntmps70
  go_wp2_with fail
  all_goals (first | (go_end0; exact ⟨rfl, rfl⟩) | ((try simp only [Exit.inBlock, Exit.then]); refine bodyPost_ret (results_none rfl _ _ _) rfl ?_; exact ⟨rfl, rfl⟩))

set_option maxHeartbeats 4000000 in
set_option maxRecDepth 1000000 in
theorem moveAfter_go (L e b : Nat) (w : World) (h2 : w.cell? ⟨e, 2, none⟩ = some (vP L)) (q2 : (binOp .eql 100 (vP e) (vP b)).run Try.prog w = .ok (.bool false) w) (h3 : w.cell? ⟨b, 2, none⟩ = some (vP L)) (Q : World → Prop)
    (C : Aside (Calls Try.prog 91 #[vP L, vP e, vP b] w fun ev w' => ev = .returned (.tuple #[]) ∧ Q w')) :
    Calls Try.prog 70 #[vP L, vP e, vP b] w fun ev w' => ev = .returned (.tuple #[]) ∧ Q w' := by
  have q := neL_same w L
  go_enter Try.func70, Try.ntmps70
  go_wp2_with (refine C.out.mono ?_; rintro ev wz ⟨rfl, hwz⟩)
  all_goals (first | (go_end0; exact ⟨rfl, hwz⟩) | ((try simp only [Exit.inBlock, Exit.then]); refine bodyPost_ret (results_none rfl _ _ _) rfl ?_; exact ⟨rfl, hwz⟩))
end
end Go.Proofs.Ytglgmkikegbchaa
