/- container/list: its methods, as steps over a row of numbers. -/
import Derived.Test.YtglgmkikegbchaaaPtr
import Derived.Deep.LoopGhost
namespace Go.Proofs.Ytglgmkikegbchaa
open Go.RowKit

set_option maxHeartbeats 4000000 in
set_option maxRecDepth 1000000 in
/-- insert(e, at): six stores. -/
theorem insert_calls (L e a n : Nat) (len : Int) (x0 x1 x2 y1 : Value) (w : World) (ha : w.cell? ⟨a, 0, none⟩ = some (vP n)) (hn : w.cell? ⟨n, 1, none⟩ = some y1) (he0 : w.cell? ⟨e, 0, none⟩ = some x0) (he1 : w.cell? ⟨e, 1, none⟩ = some x1) (he2 : w.cell? ⟨e, 2, none⟩ = some x2) (hl : w.cell? ⟨L, 4, none⟩ = some (.int .i64 len))
    (fe : ∀ i, w.frozen? ⟨e, i, none⟩ = false) (fa : ∀ i, w.frozen? ⟨a, i, none⟩ = false) (fn : ∀ i, w.frozen? ⟨n, i, none⟩ = false) (fL : ∀ i, w.frozen? ⟨L, i, none⟩ = false) (hea : ¬ a = e) (hen : ¬ n = e) (heL : ¬ L = e) (h0 : 0 ≤ len) (h1 : len ≤ 1000000) :
    Calls Try.prog 117 #[vP L, vP e, vP a] w fun ev w' => ev = .returned (vP e) ∧
      w' = (((((w.setCell ⟨e, 1, none⟩ (vP a)).setCell ⟨e, 0, none⟩ (vP n)).setCell ⟨a, 0, none⟩ (vP e)).setCell ⟨n, 1, none⟩ (vP e)).setCell ⟨e, 2, none⟩ (vP L)).setCell ⟨L, 4, none⟩ (.int .i64 (len + 1)) := by
  have hea' : ¬ e = a := fun h => hea h.symm
  have hen' : ¬ e = n := fun h => hen h.symm
  have heL' : ¬ e = L := fun h => heL h.symm
  go_enter Try.func117, Try.ntmps117
  go_wp2_with fail
  go_ret
  exact ⟨rfl, rfl⟩

set_option maxHeartbeats 4000000 in
set_option maxRecDepth 1000000 in
/-- remove(e): six stores. -/
theorem remove_calls (L e p n : Nat) (len : Int) (x2 y0 y1 : Value) (w : World) (he0 : w.cell? ⟨e, 0, none⟩ = some (vP n)) (he1 : w.cell? ⟨e, 1, none⟩ = some (vP p)) (he2 : w.cell? ⟨e, 2, none⟩ = some x2) (hp : w.cell? ⟨p, 0, none⟩ = some y0) (hn : w.cell? ⟨n, 1, none⟩ = some y1) (hl : w.cell? ⟨L, 4, none⟩ = some (.int .i64 len))
    (fe : ∀ i, w.frozen? ⟨e, i, none⟩ = false) (fp : ∀ i, w.frozen? ⟨p, i, none⟩ = false) (fn : ∀ i, w.frozen? ⟨n, i, none⟩ = false) (fL : ∀ i, w.frozen? ⟨L, i, none⟩ = false) (hpe : ¬ p = e) (hen : ¬ n = e) (heL : ¬ L = e) (h0 : 1 ≤ len) (h1 : len ≤ 1000000) :
    Calls Try.prog 90 #[vP L, vP e] w fun ev w' => ev = .returned (.tuple #[]) ∧
      w' = ((((((w.setCell ⟨p, 0, none⟩ (vP n)).setCell ⟨n, 1, none⟩ (vP p)).setCell ⟨e, 0, none⟩ (.pointer none)).setCell ⟨e, 1, none⟩ (.pointer none)).setCell ⟨e, 2, none⟩ (.pointer none)).setCell ⟨L, 4, none⟩ (.int .i64 (len - 1))).drew.drew := by
  have hpe' : ¬ e = p := fun h => hpe h.symm
  have hen' : ¬ e = n := fun h => hen h.symm
  have heL' : ¬ e = L := fun h => heL h.symm
  go_enter Try.func90, Try.ntmps90
  go_wp2_with fail
  go_region
  go_wp2_with fail
  go_region
  go_wp2_with fail
  go_end0
  exact ⟨rfl, rfl⟩

/-- A number as a list's value. -/
abbrev vI (j : Int) : Value := .iface 3 (.int .i64 j)
section
variable {n0 : Nat} {w : World} {L : Nat} {E : Int → Nat} {m f : Int} {r m1 m2 l1 l2 : List Int} {j : Int}
/-- One more element, made in the block e. -/
def PutR (n0 : Nat) (w : World) (L : Nat) (E : Int → Nat) (m f : Int) (r : List Int) (e : Nat) (w' : World) : Prop :=
  ∃ E', Lst vI LT n0 w' L E' (m + 1) f r ∧ Fr LT n0 w w' ∧ (∀ j, j ≠ m → E' j = E j) ∧ E' m = e

set_option maxHeartbeats 4000000 in
set_option maxRecDepth 1000000 in
theorem insertValue_calls (h : Lst vI LT n0 w L E m f (m1 ++ m2)) (a : Nat) (ha : a = lastOf L (m1.map E)) (hl : (m1 ++ m2).length ≤ 1000) :
    Calls Try.prog 89 #[vP L, vI m, vP a] w fun ev w' => ∃ e, ev = .returned (vP e) ∧ PutR n0 w L E m f (m1 ++ m :: m2) e w' := by
  have hf := h.f0
  have h1 := h.more 108 (Or.inr rfl)
  have hf1 : Fr LT n0 w (w.alloc (.cells #[vNil, vNil, vNil, vI m] 108)) := (Fr.refl LT n0 w).alloc _
  obtain ⟨W, hW⟩ : ∃ W, W = w.alloc (.cells #[vNil, vNil, vNil, vI m] 108) := ⟨_, rfl⟩
  obtain ⟨E', hE'⟩ : ∃ E' : Int → Nat, E' = fun j => if j = m then w.heap.size else E j := ⟨_, rfl⟩
  rw [← hE', ← hW] at h1
  have hEm : E' m = w.heap.size := by rw [hE']; simp
  have hEo : ∀ j, j ≠ m → E' j = E j := fun j hj => by rw [hE']; simp [hj]
  have hmr : m ∉ m1 ++ m2 := fun hm => by have := h.mem m hm; omega
  have hmap : m1.map E' = m1.map E := List.map_congr_left (fun j hj => hEo j (fun e => hmr (by rw [← e]; exact List.mem_append_left _ hj)))
  obtain ⟨N, P, hd, hcs⟩ := h1.ring
  have ha1 : a = lastOf L (m1.map E') := by rw [hmap]; exact ha
  obtain ⟨k1, k2⟩ := h1.ins (by omega) (by omega) hmr hd hcs w.heap.size a (N a) (m1 ++ m2).length hEm.symm ha1 rfl rfl
  have ham : a ∈ L :: (m1 ++ m2).map E' := by
    rw [ha1, List.map_append]
    have := lastOf_mem L (m1.map E')
    simp only [List.mem_cons, List.mem_append] at this ⊢
    rcases this with h | h
    · exact Or.inl h
    · exact Or.inr (Or.inl h)
  have hnm := (ring_next hd ham).1
  have na := h1.node ham
  have nn := h1.node hnm
  have ne := h1.hE m (by omega) (by omega)
  rw [hEm] at ne
  have nL := h1.hL
  have hnot : w.heap.size ∉ L :: (m1 ++ m2).map E' := fun hm => by
    rcases List.mem_cons.1 hm with e | hm
    · have := h.hL.lt; omega
    · rw [← hEm] at hm; exact h1.notin (by omega) (by omega) hmr hm
  obtain ⟨y1, hy1⟩ := nn.cell (i := 1) (by decide)
  obtain ⟨x0, hx0⟩ := ne.cell (i := 0) (by decide)
  obtain ⟨x1, hx1⟩ := ne.cell (i := 1) (by decide)
  obtain ⟨x2, hx2⟩ := ne.cell (i := 2) (by decide)
  have C : Aside (Calls Try.prog 117 #[vP L, vP w.heap.size, vP a] W fun ev w' => ev = .returned (vP w.heap.size) ∧ PutR n0 w L E m f (m1 ++ m :: m2) w.heap.size w') :=
    (insert_calls L w.heap.size a (N a) (m1 ++ m2).length x0 x1 x2 y1 W (hcs a ham).1 hy1 hx0 hx1 hx2 h1.len ne.frozen na.frozen nn.frozen nL.frozen (fun e => hnot (by rw [← e]; exact ham)) (fun e => hnot (by rw [← e]; exact hnm)) (fun e => hnot (by rw [← e]; exact List.mem_cons_self)) (by omega) (by omega)).mono (by
      rintro ev w' ⟨rfl, rfl⟩
      exact ⟨rfl, E', k1, (by rw [hW] at k2 ⊢; exact hf1.trans k2), hEo, hEm⟩)
  rw [hW] at C
  clear hcs hy1 hx0 hx1 hx2 k1 k2 hW ha ha1 hEm hEo hE' hmap h h1 hf1 hd na nn ne nL hnot hl ham hnm hmr
  go_enter Try.func89, Try.ntmps89
  go_wp2_with (refine C.out.mono ?_; rintro ev wz ⟨rfl, hwz⟩)
  go_ret
  exact ⟨_, rfl, hwz⟩
end
end Go.Proofs.Ytglgmkikegbchaa
