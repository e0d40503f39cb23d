/- faced: a list as an Interface. -/
import Derived.Test.YtglgmkikegbchaaGreatWf0
import Derived.Test.YtglgmkikegbchaaGreatOrd
namespace Go.Proofs.YtglgmkikegbchaaGreat
open Go.RowKit Go.Sort

abbrev vFace (b cap n : Nat) (o : Ordr) : Value := .agg #[.slice (some ⟨b, 0, none⟩) n cap, .int .i64 o.kind, .int .i64 o.shift, .int .u64 o.m0, .int .u64 o.m1, .int .u64 o.m2]

set_option maxHeartbeats 4000000 in
set_option maxRecDepth 1000000 in
theorem faced_less (o : Ordr) (HO : CmpC (vOrd o) (cfO o)) (w0 W : World) (b cap n : Nat) (d : Array It) (S : St2 w0 b 0 d W) (hn : d.size = n) (i j : Nat) (hi : i < n) (hj : j < n) :
    Calls Tryz.prog 197 #[vFace b cap n o, .int .i64 i, .int .i64 j] W fun e w' => e = .returned (.bool (ltC (cfO o) d[i]! d[j]!)) ∧ ∃ q os, w' = grow (W.drewN q) os := by
  have mixed : Tryz.prog.follows .mixedOrders = true := by kernel_rfl
  obtain ⟨k, s, m0, m1, m2⟩ := o
  obtain ⟨⟨x1, x2⟩, hx⟩ : ∃ x : It, x = d[i]! := ⟨_, rfl⟩
  obtain ⟨⟨y1, y2⟩, hy⟩ : ∃ y : It, y = d[j]! := ⟨_, rfl⟩
  have hcc := HO (x1, x2) (y1, y2)
  dsimp only [vIt, vOrd] at hcc
  obtain ⟨c, hc⟩ : ∃ c, c = cfO ⟨k, s, m0, m1, m2⟩ (x1, x2) (y1, y2) := ⟨_, rfl⟩
  rw [← hc] at hcc
  have hV : ltC (cfO ⟨k, s, m0, m1, m2⟩) d[i]! d[j]! = decide (c < 0) := by show decide _ = _; rw [← hx, ← hy, ← hc]
  rw [hV]
  obtain ⟨V, eV⟩ : ∃ V, V = W.alloc (.cells #[.slice (some ⟨b, 0, none⟩) n cap, .int .i64 k, .int .i64 s, .int .u64 m0, .int .u64 m1, .int .u64 m2] 61) := ⟨_, rfl⟩
  have hVs : ∀ a v, W.cell? a = some v → a.block < W.heap.size → V.cell? a = some v := fun a v h hb => by rw [eV]; exact (World.cell?_of_block (heap_alloc_old _ _ hb)).trans h
  have nb : V.heap[W.heap.size]? = some (.cells #[.slice (some ⟨b, 0, none⟩) n cap, .int .i64 k, .int .i64 s, .int .u64 m0, .int .u64 m1, .int .u64 m2] 61 (0, 0)) := by rw [eV]; exact heap_alloc_new _ _
  have cb : ∀ (q : Nat) (v : Value) (n' : Nat) (os : Array Obj), (#[Value.slice (some ⟨b, 0, none⟩) n cap, .int .i64 k, .int .i64 s, .int .u64 m0, .int .u64 m1, .int .u64 m2] : Array Value)[q]? = some v → (grow (V.drewN n') os).cell? ⟨W.heap.size, q, none⟩ = some v := fun q v n' os h => by
    refine cell_grown (by rw [eV]; simp) ?_ n' os
    simp [World.cell?, nb, h]
  have b0 := fun n' os => cb 0 _ n' os rfl
  have b1 := fun n' os => cb 1 _ n' os rfl
  have b2 := fun n' os => cb 2 _ n' os rfl
  have b3 := fun n' os => cb 3 _ n' os rfl
  have b4 := fun n' os => cb 4 _ n' os rfl
  have b5 := fun n' os => cb 5 _ n' os rfl
  obtain ⟨h11, h12, _, _⟩ := S.holds i (by omega)
  obtain ⟨h21, h22, _, _⟩ := S.holds j (by omega)
  rw [← hx] at h11 h12
  rw [← hy] at h21 h22
  rw [Nat.zero_add] at h11 h12 h21 h22
  have hl := S.lt
  have szV : V.heap.size = W.heap.size + 1 := by rw [eV]; simp
  have c11 := fun n' os => cell_grown (w := V) (a := ⟨b, i * 2, none⟩) (by dsimp only; omega) (hVs _ _ h11 hl) n' os
  have c12 := fun n' os => cell_grown (w := V) (a := ⟨b, i * 2 + 1, none⟩) (by dsimp only; omega) (hVs _ _ h12 hl) n' os
  have c21 := fun n' os => cell_grown (w := V) (a := ⟨b, j * 2, none⟩) (by dsimp only; omega) (hVs _ _ h21 hl) n' os
  have c22 := fun n' os => cell_grown (w := V) (a := ⟨b, j * 2 + 1, none⟩) (by dsimp only; omega) (hVs _ _ h22 hl) n' os
  dsimp only at c11 c12 c21 c22
  have l1 : (i : Int) < (n : Int) := by omega
  have l2 : (j : Int) < (n : Int) := by omega
  have EW : Aside (V = W.alloc (.cells #[.slice (some ⟨b, 0, none⟩) n cap, .int .i64 k, .int .i64 s, .int .u64 m0, .int .u64 m1, .int .u64 m2] 61)) := eV
  clear h11 h12 h21 h22 hl szV hVs cb S hV hx hy hc HO nb hi hj
  go_enter Tryz.func197, Tryz.ntmps197
  go_upto_region 1 with fail
  rw [← eV]
  clear eV
  go_quiet_grown (first | (go_at_call 43; refine Calls.grown_of (hcc _)))
  go_wp2_with fail
  go_ret
  exact ⟨rfl, nq, _, by rw [EW.out, alloc_eq_grow]; exact grow_grow (W.drewN nq) _ _⟩

theorem st2_alloc {w0 W : World} {b : Nat} {d : Array It} (S : St2 w0 b 0 d W) (o : Obj) : St2 w0 b 0 d (W.alloc o) := by
  have := S.grow 0 #[o]
  rwa [show Go.Sort.grow (W.drewN 0) #[o] = W.alloc o by rw [alloc_eq_grow]; rfl] at this

set_option maxHeartbeats 8000000 in
set_option maxRecDepth 1000000 in
theorem faced_swap (o : Ordr) (w0 W : World) (b cap n : Nat) (d : Array It) (S : St2 w0 b 0 d W) (hn : d.size = n) (i j : Nat) (hi : i < n) (hj : j < n) :
    Calls Tryz.prog 198 #[vFace b cap n o, .int .i64 i, .int .i64 j] W fun e w' => e = .returned (.tuple #[]) ∧ St2 w0 b 0 (swp d i j) w' ∧ W.grownBy w' (some b) := by
  have mixed : Tryz.prog.follows .mixedOrders = true := by kernel_rfl
  obtain ⟨k, s, m0, m1, m2⟩ := o
  obtain ⟨⟨x1, x2⟩, hx⟩ : ∃ x : It, x = d[i]! := ⟨_, rfl⟩
  obtain ⟨⟨y1, y2⟩, hy⟩ : ∃ y : It, y = d[j]! := ⟨_, rfl⟩
  obtain ⟨V, eV⟩ : ∃ V, V = W.alloc (.cells #[.slice (some ⟨b, 0, none⟩) n cap, .int .i64 k, .int .i64 s, .int .u64 m0, .int .u64 m1, .int .u64 m2] 61) := ⟨_, rfl⟩
  have SV : St2 w0 b 0 d V := by rw [eV]; exact st2_alloc S _
  have SW : St2 W b 0 d V := ⟨SV.holds, SV.lt, by rw [eV]; exact World.grownBy_alloc _ _ _⟩
  have nb : V.heap[W.heap.size]? = some (.cells #[.slice (some ⟨b, 0, none⟩) n cap, .int .i64 k, .int .i64 s, .int .u64 m0, .int .u64 m1, .int .u64 m2] 61 (0, 0)) := by rw [eV]; exact heap_alloc_new _ _
  have b0 : V.cell? ⟨W.heap.size, 0, none⟩ = some (.slice (some ⟨b, 0, none⟩) n cap) := by simp [World.cell?, nb]
  have hne : ¬ b = W.heap.size := by have := S.lt; omega
  obtain ⟨c11, c12, f11, f12⟩ := SV.holds i (by omega)
  obtain ⟨c21, c22, f21, f22⟩ := SV.holds j (by omega)
  rw [← hx] at c11 c12
  rw [← hy] at c21 c22
  dsimp only at c11 c12 c21 c22
  obtain ⟨u3, g3⟩ := SV.third i j (by omega) (by omega) (.int .i64 y1) (.int .i64 y2)
  obtain ⟨u4, g4⟩ := SV.fourth i j (by omega) (by omega) (.int .i64 y1) (.int .i64 y2) (.int .i64 x1)
  have S2 : Aside _ := (SV.swap (by omega) (by omega) hx hy).drew
  have S3 : Aside _ := (SW.swap (by omega) (by omega) hx hy).drew
  dsimp only at S2 S3
  simp only [Nat.zero_add] at c11 c12 c21 c22 f11 f12 f21 f22 g3 g4
  have l1 : (i : Int) < (n : Int) := by omega
  have l2 : (j : Int) < (n : Int) := by omega
  clear hx hy SV SW nb S hi hj
  go_enter Tryz.func198, Tryz.ntmps198
  go_upto_region 1 with fail
  rw [← eV]
  clear eV
  go_region
  simp only [Nat.zero_add] at S2 S3
  generalize ((((V.setCell ⟨b, i * 2, none⟩ (.int .i64 y1)).setCell ⟨b, i * 2 + 1, none⟩ (.int .i64 y2)).setCell ⟨b, j * 2, none⟩ (.int .i64 x1)).setCell ⟨b, j * 2 + 1, none⟩ (.int .i64 x2)).drew = V2 at S2 S3 ⊢
  clear c11 c12 c21 c22 f11 f12 f21 f22 g3 g4 b0
  go_wp2_with fail
  go_end0
  exact ⟨rfl, S2.out, S3.out.grown⟩

theorem face_ok (o : Ordr) (HO : CmpC (vOrd o) (cfO o)) (w0 : World) (b cap n : Nat) : FaceOk 61 (vFace b cap n o) (ltC (cfO o)) w0 b 0 n 197 198 (vFace b cap n o) (vFace b cap n o) where
  eL := fun args w => by kernel_rfl
  eS := fun args w => by kernel_rfl
  methL := fun d W _ => by kernel_rfl
  methS := fun d W _ => by kernel_rfl
  less := fun d W i j hd S hi hj => faced_less o HO w0 W b cap n d S hd i j hi hj
  swap := fun d W i j hd S hi hj => faced_swap o w0 W b cap n d S hd i j hi hj
end Go.Proofs.YtglgmkikegbchaaGreat
