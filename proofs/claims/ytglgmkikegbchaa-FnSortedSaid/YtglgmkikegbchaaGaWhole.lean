/- SortStableFunc, Stable; impl.Whole by them (printed by gen/whole.py). -/
import Derived.Test.YtglgmkikegbchaaGBS
import Derived.Test.YtglgmkikegbchaaWcStable
import Derived.Test.YtglgmkikegbchaaWfStable
namespace Go.Proofs.Ytglgmkikegbchaa
open Go.RowKit Go.Sort

theorem stable_size (lt : It → It → Bool) (d : Array It) : (stable lt d d.size).size = d.size := by
  have p1 := insBlocks_perm lt 20 d.size _ 0 d (Nat.le_refl _) (Nat.le_refl _) (fun d a b h => insertionSort_perm d a b h)
  have p2 := stableLoop_perm lt d.size _ 20 (insBlocks lt 20 d.size 0 d) (Nat.le_refl _) (by rw [p1.1]; exact Nat.le_refl _)
  exact p2.1.trans p1.1

/-- What stable leaves is the list in its order, those that are alike as they stood. -/
theorem stable_list {μ : It → Int} (d : Array It) : stable (ltBy μ) d d.size = (stablyP (ltBy μ) d.toList).toArray := by
  have h := stable_stable (μ := μ) d d.size (Nat.le_refl _)
  have hs := stably_of h (Nat.zero_le _)
  have hz := stable_size (ltBy μ) d
  rw [← extract_seg _ _ _ (by rw [hz]; exact Nat.le_refl _), ← extract_seg d 0 d.size (Nat.le_refl _)] at hs
  apply Array.ext'
  have e : (stable (ltBy μ) d d.size).extract 0 d.size = stable (ltBy μ) d d.size := by
    generalize stable (ltBy μ) d d.size = z at hz ⊢
    rw [← hz]
    simp
  rw [show (d.extract 0 d.size) = d by simp, e] at hs
  exact hs

set_option maxHeartbeats 2000000 in
set_option maxRecDepth 1000000 in
theorem sortStable_c (O : Value) (cf : It → It → Int) (hC : CmpC O cf) (w0 : World) (blk off cap n : Nat) (d : Array It) (w : World) (S : St2 w0 blk off d w) (hn : d.size = n) (hsz : n < 4611686018427387904) :
    Calls Try.prog 37 #[.slice (some ⟨blk, off, none⟩) n cap, .func (.func 36) #[O] #[]] w fun e w' =>
      e = .returned (.tuple #[]) ∧ St2 w0 blk off (stable (ltC cf) d n) w' := by
  have hc := stable_c O cf hC w0 blk off cap n d w S hn hsz n (Nat.le_refl _)
  clear S hC
  go_enter Try.func37, Try.ntmps37
  go_wp2_with fail
  refine hc.mono ?_
  rintro e w' ⟨rfl, h⟩
  go_wp2_with fail
  go_end0
  exact ⟨rfl, h⟩

set_option maxHeartbeats 2000000 in
set_option maxRecDepth 1000000 in
theorem faced_len (o : Ordr) (b cap n : Nat) (W : World) : Calls Try.prog 180 #[vFace b cap n o] W fun e w' => e = .returned (.int .i64 (n : Int)) ∧ w' = W.alloc (.cells #[.slice (some ⟨b, 0, none⟩) n cap, .int .i64 o.kind, .int .i64 o.shift, .int .u64 o.m0, .int .u64 o.m1, .int .u64 o.m2] 70) := by
  obtain ⟨k, s, m0, m1, m2⟩ := o
  go_enter Try.func180, Try.ntmps180
  go_wp2_with fail
  go_ret
  exact ⟨rfl, rfl⟩

set_option maxHeartbeats 2000000 in
set_option maxRecDepth 1000000 in
theorem sortStable_f (o : Ordr) (HO : CmpC (vOrd o) (cfO o)) (w0 : World) (b cap n : Nat) (d : Array It) (w : World) (S : St2 w0 b 0 d w) (hn : d.size = n) (hsz : n < 4611686018427387904) :
    Calls Try.prog 39 #[.iface 70 (vFace b cap n o)] w fun e w' => e = .returned (.tuple #[]) ∧ St2 w0 b 0 (stable (ltC (cfO o)) d n) w' := by
  have hl := faced_len o b cap n w
  have S1 : Aside (St2 w0 b 0 d (w.alloc (.cells #[.slice (some ⟨b, 0, none⟩) n cap, .int .i64 o.kind, .int .i64 o.shift, .int .u64 o.m0, .int .u64 o.m1, .int .u64 o.m2] 70))) := st2_alloc S _
  have FO := face_ok o HO w0 b cap n
  have HF : Aside (FaceOk 70 (vFace b cap n o) (ltC (cfO o)) w0 b 0 n 181 182 (vFace b cap n o) (vFace b cap n o)) := FO
  have mLen : Sem.run Try.prog (method 303 70 (vFace b cap n o) "Len") w = .ok (180, vFace b cap n o) w := by kernel_rfl
  have eLen : ∀ args w, (callFunc 180 args).run Try.prog w = .ok (.enter 180 args) w := fun args w => by kernel_rfl
  clear S FO HO
  go_enter Try.func39, Try.ntmps39
  go_wp2_with fail
  refine hl.mono ?_
  rintro e w' ⟨rfl, rfl⟩
  have hc := stable_f _ _ _ _ _ _ _ w0 b 0 n HF.out d _ S1.out hn hsz n (Nat.le_refl _)
  clear mLen eLen hl
  go_wp2_with fail
  refine hc.mono ?_
  rintro e w' ⟨rfl, h⟩
  go_wp2_with fail
  go_end0
  exact ⟨rfl, h⟩
set_option maxHeartbeats 2000000 in
set_option maxRecDepth 1000000 in
theorem whole_stable_c (a : Option Addr) (cap : Nat) (d : Array It) (o : Ordr) (h0 : 0 ≤ o.shift) (h63 : o.shift < 64) (w : World) (h : Rd2 w a d) (h12 : d.size ≤ 2000) :
    Calls Try.prog 13 #[.int .i64 1, .slice a d.size cap, vOrd o] w fun e w' => ∃ v, e = .returned (.tuple #[v, .bool true]) ∧ CopiedTo w (stable (ltC (cfO o)) d d.size) v w' := by
  have H : Aside (Rd2 w a d) := h
  clear h
  have HC := cmpC_of o h0 h63
  obtain ⟨k, s, m0, m1, m2⟩ := o
  have hmf : ∀ (fn : Fn) (first cap : Array Value) (w : World), (Instr.makeFunc fn first cap).run Try.prog w = .ok (.func fn first cap) w := fun _ _ _ _ => rfl
  go_enter_defers Try.func13, Try.ntmps13
  go_wp2_with fail
  refine (copied_calls a cap d _ (H.out.below (((Below.refl _ w).alloc (Nat.le_refl _) _).alloc (by simp) _) (Nat.le_refl _)) (by omega)).mono ?_
  rintro e w1 ⟨v, rfl, b, c2, rfl, hb1, hb2, hcap, hH, hbel⟩
  simp only [World.size_alloc] at hb1 hbel
  have B1 : Aside (Below w.heap.size w w1) := (((Below.refl _ w).alloc (Nat.le_refl _) _).alloc (by simp) _).trans (hbel.mono (by omega))
  have hsz1 : w.heap.size + 2 ≤ w1.heap.size := by have := hbel.size; simpa using this
  have k0 := hbel.cell (p := ⟨w.heap.size, 0, none⟩) (by dsimp only; omega)
  have k1 := hbel.cell (p := ⟨w.heap.size, 1, none⟩) (by dsimp only; omega)
  have k2 := hbel.cell (p := ⟨w.heap.size, 2, none⟩) (by dsimp only; omega)
  have k3 := hbel.cell (p := ⟨w.heap.size, 3, none⟩) (by dsimp only; omega)
  have k4 := hbel.cell (p := ⟨w.heap.size, 4, none⟩) (by dsimp only; omega)
  have ok1 := hbel.cell (p := ⟨w.heap.size + 1, 0, none⟩) (by dsimp only; omega)
  have fk1 := hbel.frozen (p := ⟨w.heap.size + 1, 0, none⟩) (by dsimp only; omega)
  simp at k0 k1 k2 k3 k4 ok1 fk1
  have S1 : Aside (St2 w1 b 0 d w1) := ⟨hH, hb2, World.grownBy.refl _ _⟩
  have C1 := fun S => sortStable_c (vOrd ⟨k, s, m0, m1, m2⟩) _ HC w1 b 0 c2 d.size d w1 S rfl (by omega)
  clear hbel hH
  go_wp2_with fail
  refine (C1 S1.out).mono ?_
  rintro e w2 ⟨rfl, S2⟩
  have g2 := S2.grown
  have ok2 := (kept_cell g2 (p := ⟨w.heap.size + 1, 0, none⟩) (by dsimp only; omega) (by simp; omega)).trans ok1
  have fk2 := (kept_frozen g2 (p := ⟨w.heap.size + 1, 0, none⟩) (by dsimp only; omega) (by simp; omega)).trans fk1
  have B2 : Aside (Below w.heap.size w w2) := below_grownBy B1.out g2 (by omega) (by omega)
  have sz2 : w.heap.size + 2 ≤ w2.heap.size := Nat.le_trans hsz1 g2.size
  have R2 : Aside (St2 w1 b 0 (stable (ltC (cfO ⟨k, s, m0, m1, m2⟩)) d d.size) w2) := S2
  clear S2 g2 ok1 fk1 k0 k1 k2 k3 k4 C1 S1 B1
  go_wp2_with fail
  obtain ⟨W3, e3⟩ : ∃ W, W = w2.setCell ⟨w.heap.size + 1, 0, none⟩ (.bool true) := ⟨_, rfl⟩
  have q3 : W3.cell? ⟨w.heap.size + 1, 0, none⟩ = some (.bool true) := by rw [e3]; exact World.cell?_setCell_same _ _ _ ok2
  have B3 : Aside (Below w.heap.size w W3) := by show Below _ _ _; rw [e3]; exact B2.out.setCell (by simp) _
  have R3 : Aside (Holds2 W3 b 0 (stable (ltC (cfO ⟨k, s, m0, m1, m2⟩)) d d.size) ∧ b < W3.heap.size) := by
    show _ ∧ _
    rw [e3]
    exact ⟨Holds2_of_block (Below.heap_setCell _ _ _ _ (by dsimp only; omega)) R2.out.holds, by simp; exact R2.out.lt⟩
  rw [← e3]
  clear e3 R2 B2 ok2 fk2 sz2
  refine leaves_cons (f := 33) (args := #[.pointer (some ⟨w.heap.size + 1, 0, none⟩)]) (by simp) (by simp [go_sem]) ?_
  refine (guarded_idle _ _).mono ?_
  rintro e u' w'' ⟨rfl, rfl, rfl⟩
  simp [Leaves, settle, results, Try.results13, go_sem, q3]
  have hs : (stable (ltC (cfO ⟨k, s, m0, m1, m2⟩)) d d.size).size = d.size := stable_size _ d
  refine ⟨b, c2, by rw [hs], by omega, R3.out.2, by rw [hs]; exact hcap, R3.out.1, B3.out⟩
set_option maxHeartbeats 2000000 in
set_option maxRecDepth 1000000 in
theorem whole_stable_f (a : Option Addr) (cap : Nat) (d : Array It) (o : Ordr) (h0 : 0 ≤ o.shift) (h63 : o.shift < 64) (w : World) (h : Rd2 w a d) (h12 : d.size ≤ 2000) :
    Calls Try.prog 13 #[.int .i64 3, .slice a d.size cap, vOrd o] w fun e w' => ∃ v, e = .returned (.tuple #[v, .bool true]) ∧ CopiedTo w (stable (ltC (cfO o)) d d.size) v w' := by
  have H : Aside (Rd2 w a d) := h
  clear h
  have HC := cmpC_of o h0 h63
  obtain ⟨k, s, m0, m1, m2⟩ := o
  have hmf : ∀ (fn : Fn) (first cap : Array Value) (w : World), (Instr.makeFunc fn first cap).run Try.prog w = .ok (.func fn first cap) w := fun _ _ _ _ => rfl
  go_enter_defers Try.func13, Try.ntmps13
  go_wp2_with fail
  refine (copied_calls a cap d _ (H.out.below (((Below.refl _ w).alloc (Nat.le_refl _) _).alloc (by simp) _) (Nat.le_refl _)) (by omega)).mono ?_
  rintro e w1 ⟨v, rfl, b, c2, rfl, hb1, hb2, hcap, hH, hbel⟩
  simp only [World.size_alloc] at hb1 hbel
  have B1 : Aside (Below w.heap.size w w1) := (((Below.refl _ w).alloc (Nat.le_refl _) _).alloc (by simp) _).trans (hbel.mono (by omega))
  have hsz1 : w.heap.size + 2 ≤ w1.heap.size := by have := hbel.size; simpa using this
  have k0 := hbel.cell (p := ⟨w.heap.size, 0, none⟩) (by dsimp only; omega)
  have k1 := hbel.cell (p := ⟨w.heap.size, 1, none⟩) (by dsimp only; omega)
  have k2 := hbel.cell (p := ⟨w.heap.size, 2, none⟩) (by dsimp only; omega)
  have k3 := hbel.cell (p := ⟨w.heap.size, 3, none⟩) (by dsimp only; omega)
  have k4 := hbel.cell (p := ⟨w.heap.size, 4, none⟩) (by dsimp only; omega)
  have ok1 := hbel.cell (p := ⟨w.heap.size + 1, 0, none⟩) (by dsimp only; omega)
  have fk1 := hbel.frozen (p := ⟨w.heap.size + 1, 0, none⟩) (by dsimp only; omega)
  simp at k0 k1 k2 k3 k4 ok1 fk1
  have S1 : Aside (St2 w1 b 0 d w1) := ⟨hH, hb2, World.grownBy.refl _ _⟩
  have C1 := fun S => sortStable_f ⟨k, s, m0, m1, m2⟩ HC w1 b c2 d.size d w1 S rfl (by omega)
  clear hbel hH
  go_wp2_with fail
  refine (C1 S1.out).mono ?_
  rintro e w2 ⟨rfl, S2⟩
  have g2 := S2.grown
  have ok2 := (kept_cell g2 (p := ⟨w.heap.size + 1, 0, none⟩) (by dsimp only; omega) (by simp; omega)).trans ok1
  have fk2 := (kept_frozen g2 (p := ⟨w.heap.size + 1, 0, none⟩) (by dsimp only; omega) (by simp; omega)).trans fk1
  have B2 : Aside (Below w.heap.size w w2) := below_grownBy B1.out g2 (by omega) (by omega)
  have sz2 : w.heap.size + 2 ≤ w2.heap.size := Nat.le_trans hsz1 g2.size
  have R2 : Aside (St2 w1 b 0 (stable (ltC (cfO ⟨k, s, m0, m1, m2⟩)) d d.size) w2) := S2
  clear S2 g2 ok1 fk1 k0 k1 k2 k3 k4 C1 S1 B1
  go_wp2_with fail
  obtain ⟨W3, e3⟩ : ∃ W, W = w2.setCell ⟨w.heap.size + 1, 0, none⟩ (.bool true) := ⟨_, rfl⟩
  have q3 : W3.cell? ⟨w.heap.size + 1, 0, none⟩ = some (.bool true) := by rw [e3]; exact World.cell?_setCell_same _ _ _ ok2
  have B3 : Aside (Below w.heap.size w W3) := by show Below _ _ _; rw [e3]; exact B2.out.setCell (by simp) _
  have R3 : Aside (Holds2 W3 b 0 (stable (ltC (cfO ⟨k, s, m0, m1, m2⟩)) d d.size) ∧ b < W3.heap.size) := by
    show _ ∧ _
    rw [e3]
    exact ⟨Holds2_of_block (Below.heap_setCell _ _ _ _ (by dsimp only; omega)) R2.out.holds, by simp; exact R2.out.lt⟩
  rw [← e3]
  clear e3 R2 B2 ok2 fk2 sz2
  refine leaves_cons (f := 33) (args := #[.pointer (some ⟨w.heap.size + 1, 0, none⟩)]) (by simp) (by simp [go_sem]) ?_
  refine (guarded_idle _ _).mono ?_
  rintro e u' w'' ⟨rfl, rfl, rfl⟩
  simp [Leaves, settle, results, Try.results13, go_sem, q3]
  have hs : (stable (ltC (cfO ⟨k, s, m0, m1, m2⟩)) d d.size).size = d.size := stable_size _ d
  refine ⟨b, c2, by rw [hs], by omega, R3.out.2, by rw [hs]; exact hcap, R3.out.1, B3.out⟩
end Go.Proofs.Ytglgmkikegbchaa
