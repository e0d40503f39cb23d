/- impl.Ends (printed by gen/ends.py). -/
import Derived.Test.YtglgmkikegbchaaaConv
import Derived.Test.YtglgmkikegbchaaaMinMax
import Derived.Test.YtglgmkikegbchaaWhole0
namespace Go.Proofs.Ytglgmkikegbchaa
open Go.RowKit Go.Sort

/-- What Ends tells of a list that is not empty. -/
def EndsTo (w : World) (P : Nat → Nat → Prop) (e : Ending) (w' : World) : Prop := ∃ u v : Nat, e = .returned (.tuple #[.int .u64 (u : Int), .int .u64 (v : Int), .bool true]) ∧ P u v ∧ Below w.heap.size w w'
def EndsF (d : Array Nat) (n u v : Nat) : Prop := MinFOf d n u ∧ MaxFOf d n v
def EndsI (d : Array Nat) (n u v : Nat) : Prop := ∃ p q, (u : Int) = IntKind.u64.wrap p ∧ (v : Int) = IntKind.u64.wrap q ∧ MinIOf (d.map toI) n p ∧ MaxIOf (d.map toI) n q
/-- guarded, of a function that panics: what was thrown is recovered, and the flag is put down. -/
theorem guarded_caught (p : Addr) (x : Bool) (u : TypeId) (pv : Value) (older : List PanicEntry) (w : World) (hc : w.cell? p = some (.bool x)) (hz : w.frozen? p = false) :
    CallsD Try.prog 33 #[.pointer (some p)] (.panicking ({ v := .iface u pv, recovered := false } :: older)) w fun e u' w' =>
      e = .returned (.tuple #[]) ∧ u' = .panicking ({ v := .iface u pv, recovered := true } :: older) ∧ w' = w.setCell p (.bool false) := by
  refine callsD_of_wpS Try.func33 rfl fun c₀ cs hu => ?_
  apply wpS_seq
  apply wpS_region
  simp [wpOpsS, go_sem, recoverD, hu, Try.ntmps33, Exit.thenS]
  refine wpS_cond (t := true) (by simp [Act.eval, Array.replicate]) ?_
  simp only [if_true]
  apply wpS_region
  simp [wpOpsS, go_sem, hc, hz, bodyPostS, results, Try.results33]
theorem wrap_u64_nonneg (p : Int) : 0 ≤ IntKind.u64.wrap p := by rw [IntKind.wrap_u64]; omega

set_option maxHeartbeats 4000000 in
set_option maxRecDepth 1000000 in
theorem ends_F (a : Option Addr) (cap n : Nat) (d : Array Nat) (w : World) (h : RdU w a d) (hn : d.size = n) (h0 : 0 < n) (hsz : n ≤ 2000) : Calls Try.prog 24 #[.bool true, .slice a n cap] w (EndsTo w fun u v => EndsF d n u v) := by
  have H : Aside (RdU w a d ∧ d.size = n) := ⟨h, hn⟩
  clear h hn
  have hmf : ∀ (fn : Fn) (first cap : Array Value) (w : World), (Instr.makeFunc fn first cap).run Try.prog w = .ok (.func fn first cap) w := fun _ _ _ _ => rfl
  have hb := fun x W => bits_run x W
  go_enter_defers Try.func24, Try.ntmps24
  go_wp2_with fail
  obtain ⟨W0, hW0⟩ : ∃ W, W = w.alloc (.cells #[.bool false] 4) := ⟨_, rfl⟩
  have B0 := below_alloc w (.cells #[.bool false] 4)
  have n0 := heap_alloc_new w (.cells #[.bool false] 4)
  rw [← hW0] at B0 n0 ⊢
  have g0 : W0.heap.size = w.heap.size + 1 := by rw [hW0]; simp
  clear hW0
  have hcv := floats_calls a cap n d W0 (H.out.1.keep B0) H.out.2 hsz
  have N0 : Aside (W0.heap[w.heap.size]? = some (.cells #[.bool false] 4 (0, 0)) ∧ W0.heap.size = w.heap.size + 1) := ⟨n0, g0⟩
  have BA : Aside _ := B0
  clear n0 g0 B0
  refine hcv.mono ?_
  rintro e w1 ⟨b, c2, rfl, hb1, hb2, hH, hbel⟩
  have R1 : Aside (w.heap.size < b ∧ b < w1.heap.size ∧ Holds eFl w1 b 0 d ∧ Below w.heap.size w w1 ∧ w1.heap[w.heap.size]? = some (.cells #[.bool false] 4 (0, 0))) := ⟨by have := N0.out.2; omega, hb2, hH, Below.next BA.out hbel, (hbel.block _ (by have := N0.out.2; omega)).trans N0.out.1⟩
  have hD : d.size = n := H.out.2
  have C1 := minF_calls b c2 n d w1 hH hD h0 hsz
  have HD : Aside (d.size = n) := hD
  clear hcv hbel hH hb1 hb2 N0 BA hD
  go_wp2_with fail
  refine C1.mono ?_
  rintro e w2 ⟨p, rfl, hp, q, rfl⟩
  have HP : Aside (MinFOf d n p) := by have := hp; rwa [HD.out] at this
  have R2 : Aside (w.heap.size < b ∧ b < (w1.drewN q).heap.size ∧ Holds eFl (w1.drewN q) b 0 d ∧ Below w.heap.size w (w1.drewN q) ∧ (w1.drewN q).heap[w.heap.size]? = some (.cells #[.bool false] 4 (0, 0))) := ⟨R1.out.1, R1.out.2.1, R1.out.2.2.1, below_drewN R1.out.2.2.2.1 q, R1.out.2.2.2.2⟩
  generalize w1.drewN q = w3 at R2 ⊢
  have C2 := maxF_calls b c2 n d w3 R2.out.2.2.1 HD.out h0 hsz
  clear C1 hp R1
  go_wp2_with fail
  refine C2.mono ?_
  rintro e w4 ⟨r, rfl, hr, q, rfl⟩
  have HR : Aside (MaxFOf d n r) := by have := hr; rwa [HD.out] at this
  have R3 : Aside (Below w.heap.size w (w3.drewN q) ∧ (w3.drewN q).heap[w.heap.size]? = some (.cells #[.bool false] 4 (0, 0))) := ⟨below_drewN R2.out.2.2.2.1 q, R2.out.2.2.2.2⟩
  generalize w3.drewN q = w5 at R3 ⊢
  have ok1 : w5.cell? ⟨w.heap.size, 0, none⟩ = some (.bool false) := cell_of_row _ _ 0 _ _ _ R3.out.2
  have fk1 : w5.frozen? ⟨w.heap.size, 0, none⟩ = false := frozen_of_row _ _ _ _ _ R3.out.2
  clear C2 hr R2
  go_wp2_with fail
  obtain ⟨W3, e3⟩ : ∃ W, W = w5.setCell ⟨w.heap.size, 0, none⟩ (.bool true) := ⟨_, rfl⟩
  have q3 : W3.cell? ⟨w.heap.size, 0, none⟩ = some (.bool true) := by rw [e3]; exact World.cell?_setCell_same _ _ _ ok1
  have B3 : Aside (Below w.heap.size w W3) := by show Below _ _ _; rw [e3]; exact R3.out.1.setCell (Nat.le_refl _) _
  rw [← e3]
  clear e3 R3 ok1 fk1
  refine leaves_cons (f := 33) (args := #[.pointer (some ⟨w.heap.size, 0, none⟩)]) (by simp) (by simp [go_sem]) ?_
  refine (guarded_idle _ _).mono ?_
  rintro e u' w'' ⟨rfl, rfl, rfl⟩
  simp [Leaves, settle, results, Try.results24, go_sem, q3]
  exact ⟨p, r, rfl, ⟨HP.out, HR.out⟩, B3.out⟩

set_option maxHeartbeats 4000000 in
set_option maxRecDepth 1000000 in
theorem ends_I (a : Option Addr) (cap n : Nat) (d : Array Nat) (w : World) (h : RdU w a d) (hn : d.size = n) (h0 : 0 < n) (hsz : n ≤ 2000) : Calls Try.prog 24 #[.bool false, .slice a n cap] w (EndsTo w fun u v => EndsI d n u v) := by
  have H : Aside (RdU w a d ∧ d.size = n) := ⟨h, hn⟩
  clear h hn
  have hmf : ∀ (fn : Fn) (first cap : Array Value) (w : World), (Instr.makeFunc fn first cap).run Try.prog w = .ok (.func fn first cap) w := fun _ _ _ _ => rfl
  have hb := fun x W => bits_run x W
  go_enter_defers Try.func24, Try.ntmps24
  go_wp2_with fail
  obtain ⟨W0, hW0⟩ : ∃ W, W = w.alloc (.cells #[.bool false] 4) := ⟨_, rfl⟩
  have B0 := below_alloc w (.cells #[.bool false] 4)
  have n0 := heap_alloc_new w (.cells #[.bool false] 4)
  rw [← hW0] at B0 n0 ⊢
  have g0 : W0.heap.size = w.heap.size + 1 := by rw [hW0]; simp
  clear hW0
  have hcv := integers_calls a cap n d W0 (H.out.1.keep B0) H.out.2 hsz
  have N0 : Aside (W0.heap[w.heap.size]? = some (.cells #[.bool false] 4 (0, 0)) ∧ W0.heap.size = w.heap.size + 1) := ⟨n0, g0⟩
  have BA : Aside _ := B0
  clear n0 g0 B0
  refine hcv.mono ?_
  rintro e w1 ⟨b, c2, rfl, hb1, hb2, hH, hbel⟩
  have R1 : Aside (w.heap.size < b ∧ b < w1.heap.size ∧ Holds eI w1 b 0 (d.map toI) ∧ Below w.heap.size w w1 ∧ w1.heap[w.heap.size]? = some (.cells #[.bool false] 4 (0, 0))) := ⟨by have := N0.out.2; omega, hb2, hH, Below.next BA.out hbel, (hbel.block _ (by have := N0.out.2; omega)).trans N0.out.1⟩
  have hD : (d.map toI).size = n := by rw [Array.size_map]; exact H.out.2
  have C1 := minI_calls b c2 n (d.map toI) w1 hH hD h0 hsz
  have HD : Aside ((d.map toI).size = n) := hD
  clear hcv hbel hH hb1 hb2 N0 BA hD
  go_wp2_with fail
  refine C1.mono ?_
  rintro e w2 ⟨p, rfl, hp, q, rfl⟩
  have HP : Aside (MinIOf (d.map toI) n p) := by have := hp; rwa [HD.out] at this
  have R2 : Aside (w.heap.size < b ∧ b < (w1.drewN q).heap.size ∧ Holds eI (w1.drewN q) b 0 (d.map toI) ∧ Below w.heap.size w (w1.drewN q) ∧ (w1.drewN q).heap[w.heap.size]? = some (.cells #[.bool false] 4 (0, 0))) := ⟨R1.out.1, R1.out.2.1, R1.out.2.2.1, below_drewN R1.out.2.2.2.1 q, R1.out.2.2.2.2⟩
  generalize w1.drewN q = w3 at R2 ⊢
  have C2 := maxI_calls b c2 n (d.map toI) w3 R2.out.2.2.1 HD.out h0 hsz
  clear C1 hp R1
  go_wp2_with fail
  refine C2.mono ?_
  rintro e w4 ⟨r, rfl, hr, q, rfl⟩
  have HR : Aside (MaxIOf (d.map toI) n r) := by have := hr; rwa [HD.out] at this
  have R3 : Aside (Below w.heap.size w (w3.drewN q) ∧ (w3.drewN q).heap[w.heap.size]? = some (.cells #[.bool false] 4 (0, 0))) := ⟨below_drewN R2.out.2.2.2.1 q, R2.out.2.2.2.2⟩
  generalize w3.drewN q = w5 at R3 ⊢
  have ok1 : w5.cell? ⟨w.heap.size, 0, none⟩ = some (.bool false) := cell_of_row _ _ 0 _ _ _ R3.out.2
  have fk1 : w5.frozen? ⟨w.heap.size, 0, none⟩ = false := frozen_of_row _ _ _ _ _ R3.out.2
  clear C2 hr R2
  go_wp2_with fail
  obtain ⟨W3, e3⟩ : ∃ W, W = w5.setCell ⟨w.heap.size, 0, none⟩ (.bool true) := ⟨_, rfl⟩
  have q3 : W3.cell? ⟨w.heap.size, 0, none⟩ = some (.bool true) := by rw [e3]; exact World.cell?_setCell_same _ _ _ ok1
  have B3 : Aside (Below w.heap.size w W3) := by show Below _ _ _; rw [e3]; exact R3.out.1.setCell (Nat.le_refl _) _
  rw [← e3]
  clear e3 R3 ok1 fk1
  refine leaves_cons (f := 33) (args := #[.pointer (some ⟨w.heap.size, 0, none⟩)]) (by simp) (by simp [go_sem]) ?_
  refine (guarded_idle _ _).mono ?_
  rintro e u' w'' ⟨rfl, rfl, rfl⟩
  simp [Leaves, settle, results, Try.results24, go_sem, q3]
  exact ⟨(IntKind.u64.wrap p).toNat, (IntKind.u64.wrap r).toNat, by rw [Int.toNat_of_nonneg (wrap_u64_nonneg p), Int.toNat_of_nonneg (wrap_u64_nonneg r)], ⟨p, r, Int.toNat_of_nonneg (wrap_u64_nonneg p), Int.toNat_of_nonneg (wrap_u64_nonneg r), HP.out, HR.out⟩, B3.out⟩

set_option maxHeartbeats 4000000 in
set_option maxRecDepth 1000000 in
theorem minF_none (b : Option Addr) (cap : Nat) (w : World) : Calls Try.prog 51 #[.slice b 0 cap] w fun e w' => (∃ u pv, e = .panicked [{ v := .iface u pv, recovered := false }]) ∧ w' = w := by
  go_enter Try.func51, Try.ntmps51
  go_wp2_with fail
  exact ⟨rfl, ⟨_, _, rfl⟩, rfl⟩
set_option maxHeartbeats 4000000 in
set_option maxRecDepth 1000000 in
theorem ends_F_none (a : Option Addr) (cap : Nat) (w : World) : Calls Try.prog 24 #[.bool true, .slice a 0 cap] w fun e w' => e = .returned (.tuple #[.int .u64 0, .int .u64 0, .bool false]) ∧ Below w.heap.size w w' := by
  have hmf : ∀ (fn : Fn) (first cap : Array Value) (w : World), (Instr.makeFunc fn first cap).run Try.prog w = .ok (.func fn first cap) w := fun _ _ _ _ => rfl
  go_enter_defers Try.func24, Try.ntmps24
  go_wp2_with fail
  obtain ⟨W0, hW0⟩ : ∃ W, W = w.alloc (.cells #[.bool false] 4) := ⟨_, rfl⟩
  have B0 := below_alloc w (.cells #[.bool false] 4)
  have n0 := heap_alloc_new w (.cells #[.bool false] 4)
  rw [← hW0] at B0 n0 ⊢
  have g0 : W0.heap.size = w.heap.size + 1 := by rw [hW0]; simp
  clear hW0
  have hcv := floats_calls a cap 0 #[] W0 (fun h => absurd h (by simp)) rfl (by omega)
  have N0 : Aside (W0.heap[w.heap.size]? = some (.cells #[.bool false] 4 (0, 0)) ∧ W0.heap.size = w.heap.size + 1) := ⟨n0, g0⟩
  have BA : Aside _ := B0
  clear n0 g0 B0
  refine hcv.mono ?_
  rintro e w1 ⟨b, c2, rfl, hb1, hb2, hH, hbel⟩
  have R1 : Aside (Below w.heap.size w w1 ∧ w1.heap[w.heap.size]? = some (.cells #[.bool false] 4 (0, 0))) := ⟨Below.next BA.out hbel, (hbel.block _ (by have := N0.out.2; omega)).trans N0.out.1⟩
  clear hcv hbel hH hb1 hb2 N0 BA
  go_wp2_with fail
  refine (minF_none _ _ _).mono ?_
  rintro e w2 ⟨⟨u, pv, rfl⟩, rfl⟩
  go_wp2_with fail
  refine leaves_cons (f := 33) (args := #[.pointer (some ⟨w.heap.size, 0, none⟩)]) (by simp) (by simp [go_sem]) ?_
  refine (guarded_caught ⟨w.heap.size, 0, none⟩ false u pv [] _ (cell_of_row _ _ 0 _ _ _ R1.out.2) (frozen_of_row _ _ _ _ _ R1.out.2)).mono ?_
  rintro e u' w'' ⟨rfl, rfl, rfl⟩
  obtain ⟨W3, e3⟩ : ∃ W, W = w2.setCell ⟨w.heap.size, 0, none⟩ (.bool false) := ⟨_, rfl⟩
  have q3 : W3.cell? ⟨w.heap.size, 0, none⟩ = some (.bool false) := by rw [e3]; exact World.cell?_setCell_same _ _ _ (cell_of_row _ _ 0 _ _ _ R1.out.2)
  have B3 : Aside (Below w.heap.size w W3) := by show Below _ _ _; rw [e3]; exact R1.out.1.setCell (Nat.le_refl _) _
  rw [← e3]
  clear e3 R1
  simp [Leaves, settle, results, Try.results24, go_sem, q3]
  exact B3.out

set_option maxHeartbeats 4000000 in
set_option maxRecDepth 1000000 in
theorem minI_none (b : Option Addr) (cap : Nat) (w : World) : Calls Try.prog 54 #[.slice b 0 cap] w fun e w' => (∃ u pv, e = .panicked [{ v := .iface u pv, recovered := false }]) ∧ w' = w := by
  go_enter Try.func54, Try.ntmps54
  go_wp2_with fail
  exact ⟨rfl, ⟨_, _, rfl⟩, rfl⟩
set_option maxHeartbeats 4000000 in
set_option maxRecDepth 1000000 in
theorem ends_I_none (a : Option Addr) (cap : Nat) (w : World) : Calls Try.prog 24 #[.bool false, .slice a 0 cap] w fun e w' => e = .returned (.tuple #[.int .u64 0, .int .u64 0, .bool false]) ∧ Below w.heap.size w w' := by
  have hmf : ∀ (fn : Fn) (first cap : Array Value) (w : World), (Instr.makeFunc fn first cap).run Try.prog w = .ok (.func fn first cap) w := fun _ _ _ _ => rfl
  go_enter_defers Try.func24, Try.ntmps24
  go_wp2_with fail
  obtain ⟨W0, hW0⟩ : ∃ W, W = w.alloc (.cells #[.bool false] 4) := ⟨_, rfl⟩
  have B0 := below_alloc w (.cells #[.bool false] 4)
  have n0 := heap_alloc_new w (.cells #[.bool false] 4)
  rw [← hW0] at B0 n0 ⊢
  have g0 : W0.heap.size = w.heap.size + 1 := by rw [hW0]; simp
  clear hW0
  have hcv := integers_calls a cap 0 #[] W0 (fun h => absurd h (by simp)) rfl (by omega)
  have N0 : Aside (W0.heap[w.heap.size]? = some (.cells #[.bool false] 4 (0, 0)) ∧ W0.heap.size = w.heap.size + 1) := ⟨n0, g0⟩
  have BA : Aside _ := B0
  clear n0 g0 B0
  refine hcv.mono ?_
  rintro e w1 ⟨b, c2, rfl, hb1, hb2, hH, hbel⟩
  have R1 : Aside (Below w.heap.size w w1 ∧ w1.heap[w.heap.size]? = some (.cells #[.bool false] 4 (0, 0))) := ⟨Below.next BA.out hbel, (hbel.block _ (by have := N0.out.2; omega)).trans N0.out.1⟩
  clear hcv hbel hH hb1 hb2 N0 BA
  go_wp2_with fail
  refine (minI_none _ _ _).mono ?_
  rintro e w2 ⟨⟨u, pv, rfl⟩, rfl⟩
  go_wp2_with fail
  refine leaves_cons (f := 33) (args := #[.pointer (some ⟨w.heap.size, 0, none⟩)]) (by simp) (by simp [go_sem]) ?_
  refine (guarded_caught ⟨w.heap.size, 0, none⟩ false u pv [] _ (cell_of_row _ _ 0 _ _ _ R1.out.2) (frozen_of_row _ _ _ _ _ R1.out.2)).mono ?_
  rintro e u' w'' ⟨rfl, rfl, rfl⟩
  obtain ⟨W3, e3⟩ : ∃ W, W = w2.setCell ⟨w.heap.size, 0, none⟩ (.bool false) := ⟨_, rfl⟩
  have q3 : W3.cell? ⟨w.heap.size, 0, none⟩ = some (.bool false) := by rw [e3]; exact World.cell?_setCell_same _ _ _ (cell_of_row _ _ 0 _ _ _ R1.out.2)
  have B3 : Aside (Below w.heap.size w W3) := by show Below _ _ _; rw [e3]; exact R1.out.1.setCell (Nat.le_refl _) _
  rw [← e3]
  clear e3 R1
  simp [Leaves, settle, results, Try.results24, go_sem, q3]
  exact B3.out
end Go.Proofs.Ytglgmkikegbchaa
