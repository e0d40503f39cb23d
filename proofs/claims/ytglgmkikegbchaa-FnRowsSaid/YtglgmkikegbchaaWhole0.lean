/- guarded; Whole by SortFunc, of twelve elements or fewer. -/
import Derived.Test.YtglgmkikegbchaaWcSmall
import Derived.Test.YtglgmkikegbchaaCopied
import Derived.Test.YtglgmkikegbchaaOrd
import Derived.Defers
import Derived.Recover
namespace Go.Proofs.Ytglgmkikegbchaa
open Go.RowKit Go.Sort

/-- guarded, of a function that returns: nothing was to be recovered. -/
theorem guarded_idle (p : Addr) (w : World) :
    CallsD Try.prog 33 #[.pointer (some p)] .returning w fun e u' w' => e = .returned (.tuple #[]) ∧ u' = .returning ∧ w' = w := by
  refine callsD_of_wpS Try.func33 rfl fun c₀ cs hu => ?_
  apply wpS_seq
  apply wpS_region
  simp [wpOpsS, go_sem, recoverD, hu, Try.ntmps33, Exit.thenS]
  refine wpS_cond (t := false) (by simp [Act.eval, Array.replicate]) ?_
  simp only [Bool.false_eq_true, if_false]
  refine wpS_of_wp (wp_skip ?_)
  cases c₀
  simp_all [bodyPostS, results, Try.results33]

theorem kept_cell {w w' : World} {row : Option Nat} (h : w.grownBy w' row) {p : Addr} (hp : p.block < w.heap.size) (hr : some p.block ≠ row) : w'.cell? p = w.cell? p := World.cell?_of_block (h.block _ hp hr)
theorem kept_frozen {w w' : World} {row : Option Nat} (h : w.grownBy w' row) {p : Addr} (hp : p.block < w.heap.size) (hr : some p.block ≠ row) : w'.frozen? p = w.frozen? p := World.frozen?_of_block (h.block _ hp hr)
theorem Holds2_of_block {w w' : World} {b off : Nat} {d : Array It} (h : w'.heap[b]? = w.heap[b]?) (H : Holds2 w b off d) : Holds2 w' b off d := fun i hi => by
  obtain ⟨a1, a2, a3, a4⟩ := H i hi
  exact ⟨(World.cell?_of_block h).trans a1, (World.cell?_of_block h).trans a2, (World.frozen?_of_block h).trans a3, (World.frozen?_of_block h).trans a4⟩
theorem below_grownBy {B : Nat} {w w1 w' : World} {b : Nat} (h : Below B w w1) (hg : w1.grownBy w' (some b)) (hB : B ≤ w1.heap.size) (hb : B ≤ b) : Below B w w' := h.grown hg hB (fun k e => by cases e; exact hb)

set_option maxHeartbeats 2000000 in
set_option maxRecDepth 1000000 in
theorem whole0_small (a : Option Addr) (cap : Nat) (d : Array It) (o : Ordr) (h0 : 0 ≤ o.shift) (h63 : o.shift < 64) (w : World) (h : Rd2 w a d) (h12 : d.size ≤ 12) :
    Calls Try.prog 13 #[.int .i64 0, .slice a d.size cap, vOrd o] w fun e w' => ∃ v, e = .returned (.tuple #[v, .bool true]) ∧ CopiedTo w (insertionSort (ltC (cfO o)) d 0 d.size) v w' := by
  have H : Aside (Rd2 w a d) := h
  clear h
  have HC := cmpC_of o h0 h63
  obtain ⟨k, s, m0, m1, m2⟩ := o
  have hmf : ∀ (fn : Fn) (first cap : Array Value) (w : World), (Instr.makeFunc fn first cap).run Try.prog w = .ok (.func fn first cap) w := fun _ _ _ _ => rfl
  go_enter_defers Try.func13, Try.ntmps13
  go_wp2_with fail
  refine (copied_calls a cap d _ (H.out.below (((Below.refl _ w).alloc (Nat.le_refl _) _).alloc (by simp) _) (Nat.le_refl _)) (by omega)).mono ?_
  rintro e w1 ⟨v, rfl, b, c2, rfl, hb1, hb2, hcap, hH, hbel⟩
  simp only [World.size_alloc] at hb1 hbel
  have B1 : Aside (Below w.heap.size w w1) := (((Below.refl _ w).alloc (Nat.le_refl _) _).alloc (by simp) _).trans (hbel.mono (by omega))
  have hsz1 : w.heap.size + 2 ≤ w1.heap.size := by have := hbel.size; simpa using this
  have k0 := hbel.cell (p := ⟨w.heap.size, 0, none⟩) (by dsimp only; omega)
  have k1 := hbel.cell (p := ⟨w.heap.size, 1, none⟩) (by dsimp only; omega)
  have k2 := hbel.cell (p := ⟨w.heap.size, 2, none⟩) (by dsimp only; omega)
  have k3 := hbel.cell (p := ⟨w.heap.size, 3, none⟩) (by dsimp only; omega)
  have k4 := hbel.cell (p := ⟨w.heap.size, 4, none⟩) (by dsimp only; omega)
  have ok1 := hbel.cell (p := ⟨w.heap.size + 1, 0, none⟩) (by dsimp only; omega)
  have fk1 := hbel.frozen (p := ⟨w.heap.size + 1, 0, none⟩) (by dsimp only; omega)
  simp at k0 k1 k2 k3 k4 ok1 fk1
  have S1 : Aside (St2 w1 b 0 d w1) := ⟨hH, hb2, World.grownBy.refl _ _⟩
  have C1 := fun S => sortFuncSmall_c (vOrd ⟨k, s, m0, m1, m2⟩) _ HC w1 b 0 c2 d.size d w1 S rfl h12
  clear hbel hH
  go_wp2_with fail
  refine (C1 S1.out).mono ?_
  rintro e w2 ⟨rfl, S2⟩
  have g2 := S2.grown
  have ok2 := (kept_cell g2 (p := ⟨w.heap.size + 1, 0, none⟩) (by dsimp only; omega) (by simp; omega)).trans ok1
  have fk2 := (kept_frozen g2 (p := ⟨w.heap.size + 1, 0, none⟩) (by dsimp only; omega) (by simp; omega)).trans fk1
  have B2 : Aside (Below w.heap.size w w2) := below_grownBy B1.out g2 (by omega) (by omega)
  have sz2 : w.heap.size + 2 ≤ w2.heap.size := Nat.le_trans hsz1 g2.size
  have R2 : Aside (St2 w1 b 0 (insertionSort (ltC (cfO ⟨k, s, m0, m1, m2⟩)) d 0 d.size) w2) := S2
  clear S2 g2 ok1 fk1 k0 k1 k2 k3 k4 C1 S1 B1
  go_wp2_with fail
  obtain ⟨W3, e3⟩ : ∃ W, W = w2.setCell ⟨w.heap.size + 1, 0, none⟩ (.bool true) := ⟨_, rfl⟩
  have q3 : W3.cell? ⟨w.heap.size + 1, 0, none⟩ = some (.bool true) := by rw [e3]; exact World.cell?_setCell_same _ _ _ ok2
  have B3 : Aside (Below w.heap.size w W3) := by show Below _ _ _; rw [e3]; exact B2.out.setCell (by simp) _
  have R3 : Aside (Holds2 W3 b 0 (insertionSort (ltC (cfO ⟨k, s, m0, m1, m2⟩)) d 0 d.size) ∧ b < W3.heap.size) := by
    show _ ∧ _
    rw [e3]
    exact ⟨Holds2_of_block (Below.heap_setCell _ _ _ _ (by dsimp only; omega)) R2.out.holds, by simp; exact R2.out.lt⟩
  rw [← e3]
  clear e3 R2 B2 ok2 fk2 sz2
  refine leaves_cons (f := 33) (args := #[.pointer (some ⟨w.heap.size + 1, 0, none⟩)]) (by simp) (by simp [go_sem]) ?_
  refine (guarded_idle _ _).mono ?_
  rintro e u' w'' ⟨rfl, rfl, rfl⟩
  simp [Leaves, settle, results, Try.results13, go_sem, q3]
  have hs : (insertionSort (ltC (cfO ⟨k, s, m0, m1, m2⟩)) d 0 d.size).size = d.size := (insertionSort_perm d 0 d.size (Nat.le_refl _)).1
  refine ⟨b, c2, by rw [hs], by omega, R3.out.2, by rw [hs]; exact hcap, R3.out.1, B3.out⟩
end Go.Proofs.Ytglgmkikegbchaa
