/- impl.Rows: what each arm of the switch comes to. -/
import Derived.Test.YtglgmkikegbchaaaRowsP
namespace Go.Proofs.Ytglgmkikegbchaa
open Go.RowKit

/-- Behind the switch. -/
def SWI (d : Array Stp) (w0 : World) (L bm bo : Nat) (i : Nat) (v2 v9 : Value) (w : World) : Prop :=
  ∃ (E : Int → Nat) (M : Nat) (vm : Value) (vs : List Value), (M : Int) = (stP d i).m ∧ SW d w0 L E M i v9 w ∧ RP d w0 bm bo E M vm vs i v2 w

section
variable {d : Array Stp} {w0 : World} {L bm bo : Nat} {E : Int → Nat} {M : Nat} {vm v2 : Value} {vs : List Value} {i : Nat} {w w' : World} {sk sa sb : Int} {r' : List Int} {e : Nat}

theorem swi_put (hM : (M : Int) = (stP d i).m) (hp : RP d w0 bm bo E M vm vs i v2 w) (hs : d[i]! = ⟨sk, sa, sb⟩) (hk : sk ≠ 9) (hr : rowP (stP d i).r (stP d i).m ⟨sk, sa, sb⟩ = (r', true)) (hP : PutR w0.heap.size w L E (stP d i).m (stP d i).f r' e w') : SWI d w0 L bm bo i v2 (vP e) w' := by
  obtain ⟨E', k1, k2, k3, k4⟩ := hP
  refine ⟨E, M, vm, vs, hM, Or.inl ?_, hp.list k2⟩
  rw [hs, hr]
  refine ⟨rfl, e, E', rfl, ?_, by rw [hM]; exact k3, by rw [hM]; exact k4⟩
  have hf : (stP d (i + 1)).f = (stP d i).f := by simp only [stP, stepP, hs]; rw [if_neg hk]
  rw [hf]
  exact k1
theorem swi_mov (hM : (M : Int) = (stP d i).m) (hp : RP d w0 bm bo E M vm vs i v2 w) (hs : d[i]! = ⟨sk, sa, sb⟩) (hr : rowP (stP d i).r (stP d i).m ⟨sk, sa, sb⟩ = (r', false)) (hP : MovR w0.heap.size w L E (stP d i).m (if sk = 9 then (stP d i).m else (stP d i).f) r' w') : SWI d w0 L bm bo i v2 vNil w' := by
  obtain ⟨k1, k2⟩ := hP
  refine ⟨E, M, vm, vs, hM, Or.inr ?_, hp.list k2⟩
  rw [hs, hr]
  refine ⟨rfl, rfl, ?_⟩
  have hf : (stP d (i + 1)).f = if sk = 9 then (stP d i).m else (stP d i).f := by simp only [stP, stepP, hs]
  rw [hf]
  exact k1

theorem arm0 (hM : (M : Int) = (stP d i).m) (hl : Lst vI LT w0.heap.size w L E (stP d i).m (stP d i).f (stP d i).r) (hp : RP d w0 bm bo E M vm vs i v2 w) (hi : i ≤ 400) (hs : d[i]! = ⟨0, sa, sb⟩) :
    Calls Try.prog 62 #[vP L, vI M] w fun ev w' => ∃ v9, ev = .returned v9 ∧ SWI d w0 L bm bo i v2 v9 w' := by
  have hb := stP_bounds d i
  rw [hM]
  exact (pushFront_calls hl (by omega)).mono (fun ev w' ⟨e, h1, h2⟩ => ⟨_, h1, swi_put hM hp hs (by omega) (by simp [rowP]) h2⟩)
theorem arm1 (hM : (M : Int) = (stP d i).m) (hl : Lst vI LT w0.heap.size w L E (stP d i).m (stP d i).f (stP d i).r) (hp : RP d w0 bm bo E M vm vs i v2 w) (hi : i ≤ 400) (hs : d[i]! = ⟨1, sa, sb⟩) :
    Calls Try.prog 63 #[vP L, vI M] w fun ev w' => ∃ v9, ev = .returned v9 ∧ SWI d w0 L bm bo i v2 v9 w' := by
  have hb := stP_bounds d i
  rw [hM]
  exact (pushBack_calls hl (by omega)).mono (fun ev w' ⟨e, h1, h2⟩ => ⟨_, h1, swi_put hM hp hs (by omega) (by simp [rowP]) h2⟩)
theorem arm9 (hM : (M : Int) = (stP d i).m) (hl : Lst vI LT w0.heap.size w L E (stP d i).m (stP d i).f (stP d i).r) (hp : RP d w0 bm bo E M vm vs i v2 w) (hs : d[i]! = ⟨9, sa, sb⟩) :
    Calls Try.prog 71 #[vP L] w fun ev w' => (∃ v, ev = .returned v) ∧ SWI d w0 L bm bo i v2 vNil w' :=
  (clear_calls hl).mono (fun ev w' ⟨h1, h2⟩ => ⟨⟨_, h1⟩, swi_mov (r' := []) hM hp hs (by simp [rowP]) (by rw [if_pos rfl]; exact h2)⟩)

/-- The element's cell, where it is in no row, or in one. -/
theorem list_in (hl : Lst vI LT w0.heap.size w L E (stP d i).m (stP d i).f (stP d i).r) (h0 : (stP d i).f ≤ sa) (h1 : sa < (stP d i).m) : cutAt sa (stP d i).r = none ∧ w.cell? ⟨E sa, 2, none⟩ = some vNil ∨ ∃ l1 l2, cutAt sa (stP d i).r = some (l1, l2) ∧ (stP d i).r = l1 ++ sa :: l2 ∧ w.cell? ⟨E sa, 2, none⟩ = some (vP L) := by
  have h2 := hl.lst sa h0 h1
  cases hc : cutAt sa (stP d i).r with
  | none => rw [if_neg (cutAt_none hc)] at h2; exact Or.inl ⟨rfl, h2⟩
  | some p =>
    obtain ⟨l1, l2⟩ := p
    have h3 := (cutAt_some hc).1
    rw [if_pos (by rw [h3]; simp)] at h2
    exact Or.inr ⟨l1, l2, rfl, h3, h2⟩

theorem arm2 (hM : (M : Int) = (stP d i).m) (hl : Lst vI LT w0.heap.size w L E (stP d i).m (stP d i).f (stP d i).r) (hp : RP d w0 bm bo E M vm vs i v2 w) (hi : i ≤ 400) (hs : d[i]! = ⟨2, sa, sb⟩) (h0 : (stP d i).f ≤ sa) (h1 : sa < (stP d i).m) :
    Calls Try.prog 64 #[vP L, vI M, vP (E sa)] w fun ev w' => ∃ v9, ev = .returned v9 ∧ SWI d w0 L bm bo i v2 v9 w' := by
  have hb := stP_bounds d i
  rw [hM]
  rcases list_in hl h0 h1 with ⟨hc, h2⟩ | ⟨l1, l2, hc, hr, h2⟩
  · exact (insertBefore_out L (E sa) _ w h2).mono (by rintro ev w' ⟨rfl, rfl⟩; exact ⟨_, rfl, swi_mov hM hp hs (by simp [rowP, hc]) (MovR.refl hl)⟩)
  · have hl' := hl
    rw [hr] at hl'
    exact (insertBefore_calls hl' (by rw [← hr]; omega) (E sa) rfl).mono (fun ev w' ⟨e, h1, h2⟩ => ⟨_, h1, swi_put hM hp hs (by omega) (by simp [rowP, hc]) h2⟩)
theorem arm3 (hM : (M : Int) = (stP d i).m) (hl : Lst vI LT w0.heap.size w L E (stP d i).m (stP d i).f (stP d i).r) (hp : RP d w0 bm bo E M vm vs i v2 w) (hi : i ≤ 400) (hs : d[i]! = ⟨3, sa, sb⟩) (h0 : (stP d i).f ≤ sa) (h1 : sa < (stP d i).m) :
    Calls Try.prog 65 #[vP L, vI M, vP (E sa)] w fun ev w' => ∃ v9, ev = .returned v9 ∧ SWI d w0 L bm bo i v2 v9 w' := by
  have hb := stP_bounds d i
  rw [hM]
  rcases list_in hl h0 h1 with ⟨hc, h2⟩ | ⟨l1, l2, hc, hr, h2⟩
  · exact (insertAfter_out L (E sa) _ w h2).mono (by rintro ev w' ⟨rfl, rfl⟩; exact ⟨_, rfl, swi_mov hM hp hs (by simp [rowP, hc]) (MovR.refl hl)⟩)
  · have hl' := hl
    rw [hr] at hl'
    exact (insertAfter_calls hl' (by rw [← hr]; omega) (E sa) rfl).mono (fun ev w' ⟨e, h1, h2⟩ => ⟨_, h1, swi_put hM hp hs (by omega) (by simp [rowP, hc]) h2⟩)
theorem arm4 (hM : (M : Int) = (stP d i).m) (hl : Lst vI LT w0.heap.size w L E (stP d i).m (stP d i).f (stP d i).r) (hp : RP d w0 bm bo E M vm vs i v2 w) (hi : i ≤ 400) (hs : d[i]! = ⟨4, sa, sb⟩) (h0 : (stP d i).f ≤ sa) (h1 : sa < (stP d i).m) :
    Calls Try.prog 66 #[vP L, vP (E sa)] w fun ev w' => (∃ v, ev = .returned v) ∧ SWI d w0 L bm bo i v2 vNil w' := by
  have hb := stP_bounds d i
  rcases list_in hl h0 h1 with ⟨hc, h2⟩ | ⟨l1, l2, hc, hr, h2⟩
  · exact (remove_out L (E sa) _ w h2 (hl.val sa (by omega) h1)).mono (by rintro ev w' ⟨hv, rfl⟩; exact ⟨hv, swi_mov hM hp hs (by simp [rowP, hc]) (MovR.refl hl)⟩)
  · have hl' := hl
    rw [hr] at hl'
    exact (removeM_calls hl' (by rw [← hr]; omega) (E sa) rfl).mono (fun ev w' ⟨h1, h2⟩ => ⟨h1, swi_mov hM hp hs (by simp [rowP, hc]) h2⟩)
theorem arm5 (hM : (M : Int) = (stP d i).m) (hl : Lst vI LT w0.heap.size w L E (stP d i).m (stP d i).f (stP d i).r) (hp : RP d w0 bm bo E M vm vs i v2 w) (hs : d[i]! = ⟨5, sa, sb⟩) (h0 : (stP d i).f ≤ sa) (h1 : sa < (stP d i).m) :
    Calls Try.prog 67 #[vP L, vP (E sa)] w fun ev w' => (∃ v, ev = .returned v) ∧ SWI d w0 L bm bo i v2 vNil w' := by
  rcases list_in hl h0 h1 with ⟨hc, h2⟩ | ⟨l1, l2, hc, hr, h2⟩
  · exact (moveToFront_out L (E sa) w h2).mono (by rintro ev w' ⟨rfl, rfl⟩; exact ⟨⟨_, rfl⟩, swi_mov hM hp hs (by simp [rowP, hc]) (MovR.refl hl)⟩)
  · have hl' := hl
    rw [hr] at hl'
    exact (moveToFront_calls hl' (E sa) rfl).mono (fun ev w' ⟨h1, h2⟩ => ⟨⟨_, h1⟩, swi_mov hM hp hs (by simp [rowP, hc]) h2⟩)
theorem arm6 (hM : (M : Int) = (stP d i).m) (hl : Lst vI LT w0.heap.size w L E (stP d i).m (stP d i).f (stP d i).r) (hp : RP d w0 bm bo E M vm vs i v2 w) (hs : d[i]! = ⟨6, sa, sb⟩) (h0 : (stP d i).f ≤ sa) (h1 : sa < (stP d i).m) :
    Calls Try.prog 68 #[vP L, vP (E sa)] w fun ev w' => (∃ v, ev = .returned v) ∧ SWI d w0 L bm bo i v2 vNil w' := by
  rcases list_in hl h0 h1 with ⟨hc, h2⟩ | ⟨l1, l2, hc, hr, h2⟩
  · exact (moveToBack_out L (E sa) w h2).mono (by rintro ev w' ⟨rfl, rfl⟩; exact ⟨⟨_, rfl⟩, swi_mov hM hp hs (by simp [rowP, hc]) (MovR.refl hl)⟩)
  · have hl' := hl
    rw [hr] at hl'
    exact (moveToBack_calls hl' (E sa) rfl).mono (fun ev w' ⟨h1, h2⟩ => ⟨⟨_, h1⟩, swi_mov hM hp hs (by simp [rowP, hc]) h2⟩)
theorem arm7 (hM : (M : Int) = (stP d i).m) (hl : Lst vI LT w0.heap.size w L E (stP d i).m (stP d i).f (stP d i).r) (hp : RP d w0 bm bo E M vm vs i v2 w) (hs : d[i]! = ⟨7, sa, sb⟩) (h0 : (stP d i).f ≤ sa) (h1 : sa < (stP d i).m) (g0 : (stP d i).f ≤ sb) (g1 : sb < (stP d i).m) :
    Calls Try.prog 69 #[vP L, vP (E sa), vP (E sb)] w fun ev w' => (∃ v, ev = .returned v) ∧ SWI d w0 L bm bo i v2 vNil w' := by
  have hf := hl.f0
  rcases list_in hl h0 h1 with ⟨hc, h2⟩ | ⟨l1, l2, hc, hr, h2⟩
  · exact (moveBefore_out L (E sa) (E sb) w h2).mono (by rintro ev w' ⟨rfl, rfl⟩; exact ⟨⟨_, rfl⟩, swi_mov hM hp hs (by simp [rowP, hc]) (MovR.refl hl)⟩)
  · by_cases hab : sa = sb
    · subst hab
      exact (moveBefore_same L (E sa) w h2).mono (by rintro ev w' ⟨rfl, rfl⟩; exact ⟨⟨_, rfl⟩, swi_mov hM hp hs (by simp [rowP, hc]) (MovR.refl hl)⟩)
    · have hne : E sa ≠ E sb := fun e' => hab (hl.inj sa sb (by omega) h1 (by omega) g1 e')
      cases hb : cutAt sb (l1 ++ l2) with
      | none =>
        have hbr : sb ∉ (stP d i).r := by
          have := cutAt_none hb
          rw [hr]
          grind
        have h3 := hl.lst sb g0 g1
        rw [if_neg hbr] at h3
        exact (moveBefore_off L (E sa) (E sb) w h2 (eqE_other (hl.hE sa (by omega) h1) (hl.hE sb (by omega) g1) hne) h3).mono (by rintro ev w' ⟨rfl, rfl⟩; exact ⟨⟨_, rfl⟩, swi_mov hM hp hs (by simp [rowP, hc, hab, hb]) (MovR.refl hl)⟩)
      | some q =>
        obtain ⟨m1, m2⟩ := q
        have hl' := hl
        rw [hr] at hl'
        exact (moveBefore_calls hl' hab (cutAt_some hb).1 (E sa) (E sb) rfl rfl).mono (fun ev w' ⟨h1, h2⟩ => ⟨⟨_, h1⟩, swi_mov hM hp hs (by simp [rowP, hc, hab, hb]) h2⟩)
theorem arm8 (hM : (M : Int) = (stP d i).m) (hl : Lst vI LT w0.heap.size w L E (stP d i).m (stP d i).f (stP d i).r) (hp : RP d w0 bm bo E M vm vs i v2 w) (hs : d[i]! = ⟨8, sa, sb⟩) (h0 : (stP d i).f ≤ sa) (h1 : sa < (stP d i).m) (g0 : (stP d i).f ≤ sb) (g1 : sb < (stP d i).m) :
    Calls Try.prog 70 #[vP L, vP (E sa), vP (E sb)] w fun ev w' => (∃ v, ev = .returned v) ∧ SWI d w0 L bm bo i v2 vNil w' := by
  have hf := hl.f0
  rcases list_in hl h0 h1 with ⟨hc, h2⟩ | ⟨l1, l2, hc, hr, h2⟩
  · exact (moveAfter_out L (E sa) (E sb) w h2).mono (by rintro ev w' ⟨rfl, rfl⟩; exact ⟨⟨_, rfl⟩, swi_mov hM hp hs (by simp [rowP, hc]) (MovR.refl hl)⟩)
  · by_cases hab : sa = sb
    · subst hab
      exact (moveAfter_same L (E sa) w h2).mono (by rintro ev w' ⟨rfl, rfl⟩; exact ⟨⟨_, rfl⟩, swi_mov hM hp hs (by simp [rowP, hc]) (MovR.refl hl)⟩)
    · have hne : E sa ≠ E sb := fun e' => hab (hl.inj sa sb (by omega) h1 (by omega) g1 e')
      cases hb : cutAt sb (l1 ++ l2) with
      | none =>
        have hbr : sb ∉ (stP d i).r := by
          have := cutAt_none hb
          rw [hr]
          grind
        have h3 := hl.lst sb g0 g1
        rw [if_neg hbr] at h3
        exact (moveAfter_off L (E sa) (E sb) w h2 (eqE_other (hl.hE sa (by omega) h1) (hl.hE sb (by omega) g1) hne) h3).mono (by rintro ev w' ⟨rfl, rfl⟩; exact ⟨⟨_, rfl⟩, swi_mov hM hp hs (by simp [rowP, hc, hab, hb]) (MovR.refl hl)⟩)
      | some q =>
        obtain ⟨m1, m2⟩ := q
        have hl' := hl
        rw [hr] at hl'
        exact (moveAfter_calls hl' hab (cutAt_some hb).1 (E sa) (E sb) rfl rfl).mono (fun ev w' ⟨h1, h2⟩ => ⟨⟨_, h1⟩, swi_mov hM hp hs (by simp [rowP, hc, hab, hb]) h2⟩)
end
end Go.Proofs.Ytglgmkikegbchaa
