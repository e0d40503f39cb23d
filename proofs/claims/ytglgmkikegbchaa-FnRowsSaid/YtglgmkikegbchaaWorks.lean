/- works: three elements, sorted. -/
import Derived.Test.YtglgmkikegbchaaWhole0
import Derived.Test.YtglgmkikegbchaaSame
import Derived.Deep.RegionHeld3
namespace Go.Proofs.Ytglgmkikegbchaa
open Go.RowKit Go.Sort

def three : Array It := #[(3, 0), (1, 1), (2, 2)]
def up0 : Ordr := ⟨0, 0, 0, 0, 0⟩
theorem three_sorted : insertionSort (ltC (cfO up0)) three 0 three.size = #[(1, 1), (2, 2), (3, 0)] := by decide +kernel

set_option maxHeartbeats 2000000 in
set_option maxRecDepth 1000000 in
theorem works_calls (w : World) : Calls Try.prog 12 #[] w fun e w' => e = .returned (.bool true) ∧ Below w.heap.size w w' := by
  go_enter Try.func12, Try.ntmps12
  go_wp2_with fail
  obtain ⟨W, hW⟩ : ∃ W, W = w.alloc (Obj.cells #[.int .i64 3, .int .i64 0, .int .i64 1, .int .i64 1, .int .i64 2, .int .i64 2] 34) := ⟨_, rfl⟩
  rw [← hW]
  have B0 : Below w.heap.size w W := by rw [hW]; exact (Below.refl _ w).alloc (Nat.le_refl _) _
  have hsz : W.heap.size = w.heap.size + 1 := by rw [hW]; simp
  have c0 : W.cell? ⟨w.heap.size, 0, none⟩ = some (.int .i64 3) := by rw [hW]; simp [go_sem]
  have c1 : W.cell? ⟨w.heap.size, 1, none⟩ = some (.int .i64 0) := by rw [hW]; simp [go_sem]
  have c2 : W.cell? ⟨w.heap.size, 2, none⟩ = some (.int .i64 1) := by rw [hW]; simp [go_sem]
  have c3 : W.cell? ⟨w.heap.size, 3, none⟩ = some (.int .i64 1) := by rw [hW]; simp [go_sem]
  have c4 : W.cell? ⟨w.heap.size, 4, none⟩ = some (.int .i64 2) := by rw [hW]; simp [go_sem]
  have c5 : W.cell? ⟨w.heap.size, 5, none⟩ = some (.int .i64 2) := by rw [hW]; simp [go_sem]
  have R : Rd2 W (some ⟨w.heap.size, 0, none⟩) three := fun _ => ⟨_, _, rfl, by omega, fun i hi => by
    have h3 : i < 3 := hi
    rcases (show i = 0 ∨ i = 1 ∨ i = 2 by omega) with rfl | rfl | rfl
    · exact ⟨c0, c1⟩
    · exact ⟨c2, c3⟩
    · exact ⟨c4, c5⟩⟩
  clear hW
  refine (whole0_small (some ⟨w.heap.size, 0, none⟩) 3 three up0 (by decide) (by decide) W R (by decide)).mono ?_
  rintro e w1 ⟨v, rfl, b, cp, rfl, hb1, hb2, hcap, hH, hbel⟩
  rw [three_sorted] at hH
  rw [three_sorted] at hcap
  rw [three_sorted]
  have k0 := (hbel.cell (p := ⟨w.heap.size, 0, none⟩) (by dsimp only; omega)).trans c0
  have k1 := (hbel.cell (p := ⟨w.heap.size, 1, none⟩) (by dsimp only; omega)).trans c1
  have k2 := (hbel.cell (p := ⟨w.heap.size, 2, none⟩) (by dsimp only; omega)).trans c2
  have k3 := (hbel.cell (p := ⟨w.heap.size, 3, none⟩) (by dsimp only; omega)).trans c3
  have k4 := (hbel.cell (p := ⟨w.heap.size, 4, none⟩) (by dsimp only; omega)).trans c4
  have k5 := (hbel.cell (p := ⟨w.heap.size, 5, none⟩) (by dsimp only; omega)).trans c5
  have B1 : Aside (Below w.heap.size w w1) := B0.trans (hbel.mono (by omega))
  have R1 : Aside (∀ W', w1.heap.size ≤ W'.heap.size → Below w1.heap.size w1 W' → Rd2 W' (some ⟨b, 0, none⟩) #[(1, 1), (2, 2), (3, 0)]) := fun W' _ hB _ =>
    ⟨_, _, rfl, by have := hB.size; omega, fun i hi => ⟨(hB.cell (p := ⟨b, 0 + i * 2, none⟩) hb2).trans (hH i hi).1, (hB.cell (p := ⟨b, 0 + i * 2 + 1, none⟩) hb2).trans (hH i hi).2.1⟩⟩
  clear c0 c1 c2 c3 c4 c5 R hH hbel hb1 hb2 B0 hsz
  go_wp2_with fail
  have mixed : Try.prog.follows .mixedOrders = true := by kernel_rfl
  obtain ⟨V, hV⟩ : ∃ V, V = (w1.alloc (Obj.cells #[.int .i64 1, .int .i64 1, .int .i64 2, .int .i64 2, .int .i64 3, .int .i64 0] 34)).drew := ⟨_, rfl⟩
  have BV : Below w1.heap.size w1 V := by rw [hV]; exact ((Below.refl _ w1).alloc (Nat.le_refl _) _).drew
  have RV : Rd2 V (some ⟨w1.heap.size, 0, none⟩) #[(1, 1), (2, 2), (3, 0)] := fun _ => ⟨_, _, rfl, by rw [hV]; simp, fun i hi => by
    have h3 : i < 3 := hi
    rw [hV]
    rcases (show i = 0 ∨ i = 1 ∨ i = 2 by omega) with rfl | rfl | rfl
    · exact ⟨by simp [go_sem], by simp [go_sem]⟩
    · exact ⟨by simp [go_sem], by simp [go_sem]⟩
    · exact ⟨by simp [go_sem], by simp [go_sem]⟩⟩
  have SV := same_calls (some ⟨b, 0, none⟩) (some ⟨w1.heap.size, 0, none⟩) cp 3 #[(1, 1), (2, 2), (3, 0)] #[(1, 1), (2, 2), (3, 0)] V (R1.out V BV.size BV) RV (by decide)
  have B2 : Aside (∀ q, Below w.heap.size w (V.drewN q)) := fun q => below_drewN (B1.out.trans (BV.mono B1.out.size)) q
  rw [hV] at SV B2
  clear hV BV RV R1 B1
  go_region_held (fun w' => w'.cell? ⟨w.heap.size, 0, none⟩ = some (.int .i64 3) ∧ w'.cell? ⟨w.heap.size, 1, none⟩ = some (.int .i64 0) ∧ w'.cell? ⟨w.heap.size, 2, none⟩ = some (.int .i64 1) ∧ w'.cell? ⟨w.heap.size, 3, none⟩ = some (.int .i64 1) ∧ w'.cell? ⟨w.heap.size, 4, none⟩ = some (.int .i64 2) ∧ w'.cell? ⟨w.heap.size, 5, none⟩ = some (.int .i64 2)) (go_keep) (first | (go_at_call 17; refine SV.mono ?_; rintro e w' ⟨rfl, q, rfl⟩))
  go_wp2_with fail
  go_ret
  exact ⟨rfl, by have h := B2.out q; simpa [World.drewN, World.drew, Nat.add_assoc] using h⟩
end Go.Proofs.Ytglgmkikegbchaa
