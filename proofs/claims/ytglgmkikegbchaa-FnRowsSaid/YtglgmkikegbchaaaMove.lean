/- container/list: move, Remove, the moves, Init, Front, Next, New as steps over a row of numbers. -/
import Derived.Test.YtglgmkikegbchaaaList
namespace Go.Proofs.Ytglgmkikegbchaa
open Go.RowKit

set_option maxHeartbeats 4000000 in
set_option maxRecDepth 1000000 in
theorem move_same (L e : Nat) (w : World) : Calls Try.prog 91 #[vP L, vP e, vP e] w fun ev w' => ev = .returned (.tuple #[]) ∧ w' = w := by
  have q := eqE_same w e
  go_enter Try.func91, Try.ntmps91
  go_wp2_with fail
  (try simp only [Exit.inBlock, Exit.then]); refine bodyPost_ret (results_none rfl _ _ _) rfl ?_
  exact ⟨rfl, rfl⟩

set_option maxHeartbeats 4000000 in
set_option maxRecDepth 1000000 in
theorem move_prev (L e p n : Nat) (y0 y1 : Value) (w : World) (he0 : w.cell? ⟨e, 0, none⟩ = some (vP n)) (he1 : w.cell? ⟨e, 1, none⟩ = some (vP p)) (hp : w.cell? ⟨p, 0, none⟩ = some y0) (hn : w.cell? ⟨n, 1, none⟩ = some y1)
    (fe : ∀ i, w.frozen? ⟨e, i, none⟩ = false) (fp : ∀ i, w.frozen? ⟨p, i, none⟩ = false) (fn : ∀ i, w.frozen? ⟨n, i, none⟩ = false) (hpe : ¬ p = e) (hen : ¬ n = e) (q : (binOp .eql 100 (vP e) (vP p)).run Try.prog w = .ok (.bool false) w) :
    Calls Try.prog 91 #[vP L, vP e, vP p] w fun ev w' => ev = .returned (.tuple #[]) ∧
      w' = ((((((w.setCell ⟨p, 0, none⟩ (vP n)).setCell ⟨n, 1, none⟩ (vP p)).setCell ⟨e, 1, none⟩ (vP p)).setCell ⟨e, 0, none⟩ (vP n)).setCell ⟨p, 0, none⟩ (vP e)).setCell ⟨n, 1, none⟩ (vP e)).drew.drew := by
  have hpe' : ¬ e = p := fun h => hpe h.symm
  have hen' : ¬ e = n := fun h => hen h.symm
  go_enter Try.func91, Try.ntmps91
  go_wp2_with fail
  go_region
  go_wp2_with fail
  go_region
  go_wp2_with fail
  go_end0
  exact ⟨rfl, rfl⟩

set_option maxHeartbeats 4000000 in
set_option maxRecDepth 1000000 in
theorem move_far (L e p n a m : Nat) (y0 y1 z1 : Value) (w : World) (he0 : w.cell? ⟨e, 0, none⟩ = some (vP n)) (he1 : w.cell? ⟨e, 1, none⟩ = some (vP p)) (hp : w.cell? ⟨p, 0, none⟩ = some y0) (hn : w.cell? ⟨n, 1, none⟩ = some y1) (ha : w.cell? ⟨a, 0, none⟩ = some (vP m)) (hm : w.cell? ⟨m, 1, none⟩ = some z1)
    (fe : ∀ i, w.frozen? ⟨e, i, none⟩ = false) (fp : ∀ i, w.frozen? ⟨p, i, none⟩ = false) (fn : ∀ i, w.frozen? ⟨n, i, none⟩ = false) (fa : ∀ i, w.frozen? ⟨a, i, none⟩ = false) (fm : ∀ i, w.frozen? ⟨m, i, none⟩ = false) (hpe : ¬ p = e) (hen : ¬ n = e) (hae : ¬ a = e) (hap : ¬ a = p) (hme : ¬ m = e) (hmn : ¬ m = n) (q : (binOp .eql 100 (vP e) (vP a)).run Try.prog w = .ok (.bool false) w) :
    Calls Try.prog 91 #[vP L, vP e, vP a] w fun ev w' => ev = .returned (.tuple #[]) ∧
      w' = ((((((w.setCell ⟨p, 0, none⟩ (vP n)).setCell ⟨n, 1, none⟩ (vP p)).setCell ⟨e, 1, none⟩ (vP a)).setCell ⟨e, 0, none⟩ (vP m)).setCell ⟨a, 0, none⟩ (vP e)).setCell ⟨m, 1, none⟩ (vP e)).drew.drew := by
  have hpe' : ¬ e = p := fun h => hpe h.symm
  have hen' : ¬ e = n := fun h => hen h.symm
  have hae' : ¬ e = a := fun h => hae h.symm
  have hap' : ¬ p = a := fun h => hap h.symm
  have hme' : ¬ e = m := fun h => hme h.symm
  have hmn' : ¬ n = m := fun h => hmn h.symm
  go_enter Try.func91, Try.ntmps91
  go_wp2_with fail
  go_region
  go_wp2_with fail
  go_region
  go_wp2_with fail
  go_end0
  exact ⟨rfl, rfl⟩

section
variable {n0 : Nat} {w : World} {L : Nat} {E : Int → Nat} {m f : Int} {r m1 m2 l1 l2 : List Int} {j : Int}
/-- The same elements in another order, or fewer. -/
def MovR (n0 : Nat) (w : World) (L : Nat) (E : Int → Nat) (m f : Int) (r : List Int) (w' : World) : Prop := Lst vI LT n0 w' L E m f r ∧ Fr LT n0 w w'

theorem lastOf_in (L : Nat) (E : Int → Nat) (m1 m2 : List Int) : lastOf L (m1.map E) ∈ L :: (m1 ++ m2).map E := by
  rw [List.map_append]
  have := lastOf_mem L (m1.map E)
  simp only [List.mem_cons, List.mem_append] at this ⊢
  rcases this with h | h
  · exact Or.inl h
  · exact Or.inr (Or.inl h)

theorem move_calls (h : Lst vI LT n0 w L E m f (l1 ++ j :: l2)) (hr : l1 ++ l2 = m1 ++ m2) (a e : Nat) (ha : a = lastOf L (m1.map E)) (he : e = E j) :
    Calls Try.prog 91 #[vP L, vP e, vP a] w fun ev w' => ev = .returned (.tuple #[]) ∧ MovR n0 w L E m f (m1 ++ j :: m2) w' := by
  have hjm : j ∈ l1 ++ j :: l2 := by simp
  have hj := h.inR hjm
  obtain ⟨N, P, hd, hcs⟩ := h.ring
  have hem : e ∈ L :: (l1 ++ j :: l2).map E := by rw [he]; exact List.mem_cons_of_mem _ (List.mem_map.2 ⟨j, hjm, rfl⟩)
  have hLn := h.Lnot
  have hmn := h.mapNd
  rw [List.map_append, List.map_cons, ← he] at hLn hmn
  have hsub : ∀ b, b ∈ L :: (m1 ++ m2).map E → b ∈ L :: (l1 ++ j :: l2).map E ∧ b ≠ e := fun b hb => by
    rw [← hr, List.map_append] at hb
    rw [List.map_append, List.map_cons, ← he]
    grind
  have ham := hsub a (by rw [ha]; exact lastOf_in L E m1 m2)
  have hpm := (ring_prev hd hem).1
  have hnm := (ring_next hd hem).1
  have ne := h.node hem
  have na := h.node ham.1
  have np := h.node hpm
  have nn := h.node hnm
  have nam := h.node (ring_next hd ham.1).1
  have hneq : N e ≠ e ∧ P e ≠ e := by
    have hd' := hd
    rw [List.map_append, List.map_cons, ← he] at hd'
    have h1 := dbl_at hd'
    have h2 := ((dbl_append _ _ _ _ _).1 hd').2
    have h3 := (dbl_first h2).1
    have h4 := lastOf_mem L (l1.map E)
    rw [h1.1]
    constructor
    · intro e'; rw [e'] at h3; grind
    · intro e'; rw [e'] at h4; grind
  have q := eqE_other ne na (fun e' => ham.2 e'.symm)
  by_cases hap : a = P e
  · have k := h.mov hr hd hcs e (P e) (N e) a (N e) he rfl rfl ha (by rw [if_pos hap])
    rw [hap] at q k ⊢
    exact (move_prev L e (P e) (N e) _ _ w (hcs e hem).1 (hcs e hem).2 (hcs _ hpm).1 (hcs _ hnm).2 ne.frozen np.frozen nn.frozen hneq.2 hneq.1 q).mono (by
      rintro ev w' ⟨rfl, rfl⟩
      exact ⟨rfl, k⟩)
  · have k := h.mov hr hd hcs e (P e) (N e) a (N a) he rfl rfl ha (by rw [if_neg hap])
    have hme : N a ≠ e := fun e' => hap (by rw [← e', (ring_next hd ham.1).2])
    have hmn' : N a ≠ N e := fun e' => ham.2 (by rw [← (ring_next hd ham.1).2, e', (ring_next hd hem).2])
    exact (move_far L e (P e) (N e) a (N a) _ _ _ w (hcs e hem).1 (hcs e hem).2 (hcs _ hpm).1 (hcs _ hnm).2 (hcs a ham.1).1 (hcs _ (ring_next hd ham.1).1).2 ne.frozen np.frozen nn.frozen na.frozen nam.frozen hneq.2 hneq.1 ham.2 hap hme hmn' q).mono (by
      rintro ev w' ⟨rfl, rfl⟩
      exact ⟨rfl, k⟩)

theorem removeL_calls (h : Lst vI LT n0 w L E m f (l1 ++ j :: l2)) (hl : (l1 ++ j :: l2).length ≤ 1000) (e : Nat) (he : e = E j) :
    Calls Try.prog 90 #[vP L, vP e] w fun ev w' => ev = .returned (.tuple #[]) ∧ MovR n0 w L E m f (l1 ++ l2) w' := by
  have hjm : j ∈ l1 ++ j :: l2 := by simp
  have hj := h.inR hjm
  obtain ⟨N, P, hd, hcs⟩ := h.ring
  have hem : e ∈ L :: (l1 ++ j :: l2).map E := by rw [he]; exact List.mem_cons_of_mem _ (List.mem_map.2 ⟨j, hjm, rfl⟩)
  have hLn := h.Lnot
  have hmn := h.mapNd
  rw [List.map_append, List.map_cons, ← he] at hLn hmn
  have hpm := (ring_prev hd hem).1
  have hnm := (ring_next hd hem).1
  have ne := h.node hem
  have np := h.node hpm
  have nn := h.node hnm
  have hneq : N e ≠ e ∧ P e ≠ e := by
    have hd' := hd
    rw [List.map_append, List.map_cons, ← he] at hd'
    have h1 := dbl_at hd'
    have h2 := ((dbl_append _ _ _ _ _).1 hd').2
    have h3 := (dbl_first h2).1
    have h4 := lastOf_mem L (l1.map E)
    rw [h1.1]
    constructor
    · intro e'; rw [e'] at h3; grind
    · intro e'; rw [e'] at h4; grind
  obtain ⟨x2, hx2⟩ := ne.cell (i := 2) (by decide)
  have hlen : 1 ≤ ((l1 ++ j :: l2).length : Int) := by simp; omega
  have k := h.del hd hcs e (P e) (N e) (l1 ++ j :: l2).length he rfl rfl rfl
  exact (remove_calls L e (P e) (N e) (l1 ++ j :: l2).length x2 _ _ w (hcs e hem).1 (hcs e hem).2 hx2 (hcs _ hpm).1 (hcs _ hnm).2 h.len ne.frozen np.frozen nn.frozen h.hL.frozen hneq.2 hneq.1 (by rw [he]; exact fun e' => h.neL j hj.1 hj.2 e'.symm) hlen (by omega)).mono (by
      rintro ev w' ⟨rfl, rfl⟩
      exact ⟨rfl, k⟩)
end
end Go.Proofs.Ytglgmkikegbchaa
