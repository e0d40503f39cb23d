/- Texts of this claim, laid together: WcSiftDown, WcHeapSort, WfSiftDown, WfHeapSort, WoSiftDown, WoHeapSort, WcReverseRange, WfReverseRange, WoReverseRange. -/
import Derived.Test.YtglgmkikegbchaaGreatWc0
import Derived.Test.YtglgmkikegbchaaGreatPb
import Derived.Test.YtglgmkikegbchaaGreatWf0
import Derived.Test.YtglgmkikegbchaaGreatWo0
/- siftDown: the text by a function that compares, over elements of two cells. -/
namespace Go.Proofs.YtglgmkikegbchaaGreat
open Go.RowKit Go.Sort

set_option maxHeartbeats 4000000 in
set_option maxRecDepth 1000000 in
theorem siftDown_c (O : Value) (cf : It → It → Int) (hC : CmpC O cf) (w0 : World) (blk off cap n : Nat) (d : Array It) (w : World) (S : St2 w0 blk off d w) (hn : d.size = n) (hsz : n < 4611686018427387904) (lo hi first : Nat) (hlo : lo ≤ n) (hfh : first + hi ≤ n) :
    Calls Tryz.prog 125 #[.slice (some ⟨blk, off, none⟩) n cap, .int .i64 lo, .int .i64 hi, .int .i64 first, .func (.func 43) #[O] #[]] w fun e w' =>
      e = .returned (.tuple #[]) ∧ St2 w0 blk off (siftDown (ltC cf) hi first lo d) w' := by
  have mixed : Tryz.prog.follows .mixedOrders = true := by kernel_rfl
  have HC : Aside (CmpC O cf) := hC
  have S0 : Aside (St2 w0 blk off d w) := S
  clear S
  go_enter Tryz.func125, Tryz.ntmps125
  go_wp2
  go_loopg [10] (hi - lo) (fun g vi wr => ∃ (r : Nat) (dk : Array It), vi = .int .i64 r ∧ r ≤ n ∧ hi - r ≤ g ∧ dk.size = n ∧ Aside (St2 w0 blk off dk wr) ∧ Hid (siftDown (ltC cf) hi first r dk = siftDown (ltC cf) hi first lo d))
  case atStart => exact ⟨lo, d, rfl, hlo, Nat.le_refl _, hn, S0, rfl⟩
  case round =>
    obtain ⟨r, dk, rfl, hrn, hg, hsk, Sk, HO⟩ := hrel
    by_cases hend : hi ≤ 2 * r + 1
    · have hendz : (hi : Int) ≤ 2 * (r : Int) + 1 := by omega
      go_wp2_with fail
      go_end0
      exact ⟨rfl, by rw [← HO.out, sift_end _ _ _ _ hend]; exact Sk.out⟩
    · have hendz : ¬ (hi : Int) ≤ 2 * (r : Int) + 1 := by omega
      by_cases hrt : 2 * r + 2 < hi
      · have hrtz : 2 * (r : Int) + 1 + 1 < (hi : Int) := by omega
        have wch : IntKind.i64.wrap (2 * (r : Int) + 1 + 1) = 2 * (r : Int) + 1 + 1 := by rw [IntKind.wrap_i64]; omega
        have bi1 : (first : Int) + (2 * (r : Int) + 1) < (n : Int) := by omega
        have ri1 : IntKind.i64.wrap ((first : Int) + (2 * (r : Int) + 1)) = (first : Int) + (2 * (r : Int) + 1) := by rw [IntKind.wrap_i64]; omega
        have pi1 : (0 : Int) ≤ (first : Int) + (2 * (r : Int) + 1) := by omega
        have ei1 : ((first : Int) + (2 * (r : Int) + 1)).toNat = first + (2 * r + 1) := by omega
        have bj1 : (first : Int) + (2 * (r : Int) + 1) + 1 < (n : Int) := by omega
        have rj1 : IntKind.i64.wrap ((first : Int) + (2 * (r : Int) + 1) + 1) = (first : Int) + (2 * (r : Int) + 1) + 1 := by rw [IntKind.wrap_i64]; omega
        have pj1 : (0 : Int) ≤ (first : Int) + (2 * (r : Int) + 1) + 1 := by omega
        have ej1 : ((first : Int) + (2 * (r : Int) + 1) + 1).toNat = first + (2 * r + 1) + 1 := by omega
        obtain ⟨⟨x1, x2⟩, hx⟩ : ∃ x : It, x = dk[first + (2 * r + 1)]! := ⟨_, rfl⟩
        obtain ⟨⟨y1, y2⟩, hy⟩ : ∃ y : It, y = dk[first + (2 * r + 1) + 1]! := ⟨_, rfl⟩
        have c11 := fun n' os => (Sk.out.cells (i := first + (2 * r + 1)) (by omega) hx n' os).1
        have c12 := fun n' os => (Sk.out.cells (i := first + (2 * r + 1)) (by omega) hx n' os).2
        have c21 := fun n' os => (Sk.out.cells (i := first + (2 * r + 1) + 1) (by omega) hy n' os).1
        have c22 := fun n' os => (Sk.out.cells (i := first + (2 * r + 1) + 1) (by omega) hy n' os).2
        have hcc := CmpC.out HC (x1, x2) (y1, y2)
        dsimp only [vIt] at c11 c12 c21 c22 hcc
        obtain ⟨c, hc⟩ : ∃ c, c = cf (x1, x2) (y1, y2) := ⟨_, rfl⟩
        rw [← hc] at hcc
        have HV : Aside (ltC cf dk[first + (2 * r + 1)]! dk[first + (2 * r + 1) + 1]! = decide (c < 0)) := by show ltC cf _ _ = _; rw [← hx, ← hy, hc]; rfl
        clear hx hy hc
        by_cases hcl : c < 0
        · have hcd : decide (c < 0) = true := decide_eq_true hcl
          replace HV := HV.out.trans hcd
          have HV' : Aside _ := HV
          clear HV
          go_wp2_with fail
          go_quiet_grown (first | (go_at_call 43; refine Calls.grown_of (hcc _)))
          have S2 : Aside _ := Sk.out.grow nq osq
          clear c11 c12 c21 c22 hcc
          generalize grow (wr.drewN nq) osq = w2 at S2 ⊢
          clear nq osq
          clear bi1 ri1 pi1 ei1 bj1 rj1 pj1 ej1
          have bi2 : (first : Int) + (r : Int) < (n : Int) := by omega
          have ri2 : IntKind.i64.wrap ((first : Int) + (r : Int)) = (first : Int) + (r : Int) := by rw [IntKind.wrap_i64]; omega
          have pi2 : (0 : Int) ≤ (first : Int) + (r : Int) := by omega
          have ei2 : ((first : Int) + (r : Int)).toNat = first + r := by omega
          have bj2 : (first : Int) + (2 * (r : Int) + 1 + 1) < (n : Int) := by omega
          have rj2 : IntKind.i64.wrap ((first : Int) + (2 * (r : Int) + 1 + 1)) = (first : Int) + (2 * (r : Int) + 1 + 1) := by rw [IntKind.wrap_i64]; omega
          have pj2 : (0 : Int) ≤ (first : Int) + (2 * (r : Int) + 1 + 1) := by omega
          have ej2 : ((first : Int) + (2 * (r : Int) + 1 + 1)).toNat = first + (2 * r + 2) := by omega
          obtain ⟨⟨x1, x2⟩, hx⟩ : ∃ x : It, x = dk[first + r]! := ⟨_, rfl⟩
          obtain ⟨⟨y1, y2⟩, hy⟩ : ∃ y : It, y = dk[first + (2 * r + 2)]! := ⟨_, rfl⟩
          have c11 := fun n' os => (S2.out.cells (i := first + r) (by omega) hx n' os).1
          have c12 := fun n' os => (S2.out.cells (i := first + r) (by omega) hx n' os).2
          have c21 := fun n' os => (S2.out.cells (i := first + (2 * r + 2)) (by omega) hy n' os).1
          have c22 := fun n' os => (S2.out.cells (i := first + (2 * r + 2)) (by omega) hy n' os).2
          have hcc := CmpC.out HC (x1, x2) (y1, y2)
          dsimp only [vIt] at c11 c12 c21 c22 hcc
          obtain ⟨c, hc⟩ : ∃ c, c = cf (x1, x2) (y1, y2) := ⟨_, rfl⟩
          rw [← hc] at hcc
          have HU : Aside (ltC cf dk[first + r]! dk[first + (2 * r + 2)]! = decide (c < 0)) := by show ltC cf _ _ = _; rw [← hx, ← hy, hc]; rfl
          clear hx hy hc
          by_cases hcl : c < 0
          · have hcd : decide (c < 0) = true := decide_eq_true hcl
            replace HU := HU.out.trans hcd
            have HU' : Aside _ := HU
            clear HU
            go_wp2_with fail
            go_quiet_grown (first | (go_at_call 43; refine Calls.grown_of (hcc _)))
            have S5 : Aside _ := S2.out.grow nq osq
            clear c11 c12 c21 c22 hcc
            generalize grow (w2.drewN nq) osq = w5 at S5 ⊢
            clear nq osq
            clear bi2 ri2 pi2 ei2 bj2 rj2 pj2 ej2
            have bi3 : (first : Int) + (r : Int) < (n : Int) := by omega
            have ri3 : IntKind.i64.wrap ((first : Int) + (r : Int)) = (first : Int) + (r : Int) := by rw [IntKind.wrap_i64]; omega
            have pi3 : (0 : Int) ≤ (first : Int) + (r : Int) := by omega
            have ei3 : ((first : Int) + (r : Int)).toNat = first + r := by omega
            have bj3 : (first : Int) + (2 * (r : Int) + 1 + 1) < (n : Int) := by omega
            have rj3 : IntKind.i64.wrap ((first : Int) + (2 * (r : Int) + 1 + 1)) = (first : Int) + (2 * (r : Int) + 1 + 1) := by rw [IntKind.wrap_i64]; omega
            have pj3 : (0 : Int) ≤ (first : Int) + (2 * (r : Int) + 1 + 1) := by omega
            have ej3 : ((first : Int) + (2 * (r : Int) + 1 + 1)).toNat = first + (2 * r + 2) := by omega
            obtain ⟨⟨x1, x2⟩, hx⟩ : ∃ x : It, x = dk[first + r]! := ⟨_, rfl⟩
            obtain ⟨⟨y1, y2⟩, hy⟩ : ∃ y : It, y = dk[first + (2 * r + 2)]! := ⟨_, rfl⟩
            obtain ⟨c11, c12, f11, f12⟩ := S5.out.holds (first + r) (by omega)
            obtain ⟨c21, c22, f21, f22⟩ := S5.out.holds (first + (2 * r + 2)) (by omega)
            rw [← hx] at c11 c12
            rw [← hy] at c21 c22
            dsimp only at c11 c12 c21 c22
            obtain ⟨u3, g3⟩ := S5.out.third (first + r) (first + (2 * r + 2)) (by omega) (by omega) (.int .i64 y1) (.int .i64 y2)
            obtain ⟨u4, g4⟩ := S5.out.fourth (first + r) (first + (2 * r + 2)) (by omega) (by omega) (.int .i64 y1) (.int .i64 y2) (.int .i64 x1)
            have S6 : Aside _ := (S5.out.swap (by omega) (by omega) hx hy).drew
            dsimp only at S6
            clear hx hy
            go_wp2_with fail
            go_region
            clear c11 c12 c21 c22 f11 f12 f21 f22 g3 g4
            generalize ((((w5.setCell ⟨blk, off + (first + r) * 2, none⟩ (.int .i64 y1)).setCell ⟨blk, off + (first + r) * 2 + 1, none⟩ (.int .i64 y2)).setCell ⟨blk, off + (first + (2 * r + 2)) * 2, none⟩ (.int .i64 x1)).setCell ⟨blk, off + (first + (2 * r + 2)) * 2 + 1, none⟩ (.int .i64 x2)).drew = w6 at S6 ⊢
            clear bi3 ri3 pi3 ei3 bj3 rj3 pj3 ej3
            go_wp2_with fail
            go_roundg (hi - (2 * r + 2))
            case measure => omega
            case rel => exact ⟨2 * r + 2, swp dk (first + r) (first + (2 * r + 2)), by go_num, by omega, by omega, by rw [size_swp]; exact hsk, S6, (sift_right_go _ _ _ _ hrt HV'.out HU'.out).symm.trans HO.out⟩
          · have hcd : decide (c < 0) = false := decide_eq_false hcl
            replace HU := HU.out.trans hcd
            have HU' : Aside _ := HU
            clear HU
            go_wp2_with fail
            go_quiet_grown (first | (go_at_call 43; refine Calls.grown_of (hcc _)))
            have S5 : Aside _ := S2.out.grow nq osq
            clear c11 c12 c21 c22 hcc
            generalize grow (w2.drewN nq) osq = w5 at S5 ⊢
            clear nq osq
            clear bi2 ri2 pi2 ei2 bj2 rj2 pj2 ej2
            go_wp2_with fail
            (try simp only [Exit.inBlock, Exit.then]); refine bodyPost_ret (results_none rfl _ _ _) rfl ?_
            exact ⟨rfl, by rw [← HO.out, sift_right_stop _ _ _ _ hrt HV'.out HU'.out]; exact S5.out⟩
        · have hcd : decide (c < 0) = false := decide_eq_false hcl
          replace HV := HV.out.trans hcd
          have HV' : Aside _ := HV
          clear HV
          go_wp2_with fail
          go_quiet_grown (first | (go_at_call 43; refine Calls.grown_of (hcc _)))
          have S2 : Aside _ := Sk.out.grow nq osq
          clear c11 c12 c21 c22 hcc
          generalize grow (wr.drewN nq) osq = w2 at S2 ⊢
          clear nq osq
          clear bi1 ri1 pi1 ei1 bj1 rj1 pj1 ej1
          have bi4 : (first : Int) + (r : Int) < (n : Int) := by omega
          have ri4 : IntKind.i64.wrap ((first : Int) + (r : Int)) = (first : Int) + (r : Int) := by rw [IntKind.wrap_i64]; omega
          have pi4 : (0 : Int) ≤ (first : Int) + (r : Int) := by omega
          have ei4 : ((first : Int) + (r : Int)).toNat = first + r := by omega
          have bj4 : (first : Int) + (2 * (r : Int) + 1) < (n : Int) := by omega
          have rj4 : IntKind.i64.wrap ((first : Int) + (2 * (r : Int) + 1)) = (first : Int) + (2 * (r : Int) + 1) := by rw [IntKind.wrap_i64]; omega
          have pj4 : (0 : Int) ≤ (first : Int) + (2 * (r : Int) + 1) := by omega
          have ej4 : ((first : Int) + (2 * (r : Int) + 1)).toNat = first + (2 * r + 1) := by omega
          obtain ⟨⟨x1, x2⟩, hx⟩ : ∃ x : It, x = dk[first + r]! := ⟨_, rfl⟩
          obtain ⟨⟨y1, y2⟩, hy⟩ : ∃ y : It, y = dk[first + (2 * r + 1)]! := ⟨_, rfl⟩
          have c11 := fun n' os => (S2.out.cells (i := first + r) (by omega) hx n' os).1
          have c12 := fun n' os => (S2.out.cells (i := first + r) (by omega) hx n' os).2
          have c21 := fun n' os => (S2.out.cells (i := first + (2 * r + 1)) (by omega) hy n' os).1
          have c22 := fun n' os => (S2.out.cells (i := first + (2 * r + 1)) (by omega) hy n' os).2
          have hcc := CmpC.out HC (x1, x2) (y1, y2)
          dsimp only [vIt] at c11 c12 c21 c22 hcc
          obtain ⟨c, hc⟩ : ∃ c, c = cf (x1, x2) (y1, y2) := ⟨_, rfl⟩
          rw [← hc] at hcc
          have HU : Aside (ltC cf dk[first + r]! dk[first + (2 * r + 1)]! = decide (c < 0)) := by show ltC cf _ _ = _; rw [← hx, ← hy, hc]; rfl
          clear hx hy hc
          by_cases hcl : c < 0
          · have hcd : decide (c < 0) = true := decide_eq_true hcl
            replace HU := HU.out.trans hcd
            have HU' : Aside _ := HU
            clear HU
            go_wp2_with fail
            go_quiet_grown (first | (go_at_call 43; refine Calls.grown_of (hcc _)))
            have S5 : Aside _ := S2.out.grow nq osq
            clear c11 c12 c21 c22 hcc
            generalize grow (w2.drewN nq) osq = w5 at S5 ⊢
            clear nq osq
            clear bi4 ri4 pi4 ei4 bj4 rj4 pj4 ej4
            have bi5 : (first : Int) + (r : Int) < (n : Int) := by omega
            have ri5 : IntKind.i64.wrap ((first : Int) + (r : Int)) = (first : Int) + (r : Int) := by rw [IntKind.wrap_i64]; omega
            have pi5 : (0 : Int) ≤ (first : Int) + (r : Int) := by omega
            have ei5 : ((first : Int) + (r : Int)).toNat = first + r := by omega
            have bj5 : (first : Int) + (2 * (r : Int) + 1) < (n : Int) := by omega
            have rj5 : IntKind.i64.wrap ((first : Int) + (2 * (r : Int) + 1)) = (first : Int) + (2 * (r : Int) + 1) := by rw [IntKind.wrap_i64]; omega
            have pj5 : (0 : Int) ≤ (first : Int) + (2 * (r : Int) + 1) := by omega
            have ej5 : ((first : Int) + (2 * (r : Int) + 1)).toNat = first + (2 * r + 1) := by omega
            obtain ⟨⟨x1, x2⟩, hx⟩ : ∃ x : It, x = dk[first + r]! := ⟨_, rfl⟩
            obtain ⟨⟨y1, y2⟩, hy⟩ : ∃ y : It, y = dk[first + (2 * r + 1)]! := ⟨_, rfl⟩
            obtain ⟨c11, c12, f11, f12⟩ := S5.out.holds (first + r) (by omega)
            obtain ⟨c21, c22, f21, f22⟩ := S5.out.holds (first + (2 * r + 1)) (by omega)
            rw [← hx] at c11 c12
            rw [← hy] at c21 c22
            dsimp only at c11 c12 c21 c22
            obtain ⟨u3, g3⟩ := S5.out.third (first + r) (first + (2 * r + 1)) (by omega) (by omega) (.int .i64 y1) (.int .i64 y2)
            obtain ⟨u4, g4⟩ := S5.out.fourth (first + r) (first + (2 * r + 1)) (by omega) (by omega) (.int .i64 y1) (.int .i64 y2) (.int .i64 x1)
            have S6 : Aside _ := (S5.out.swap (by omega) (by omega) hx hy).drew
            dsimp only at S6
            clear hx hy
            go_wp2_with fail
            go_region
            clear c11 c12 c21 c22 f11 f12 f21 f22 g3 g4
            generalize ((((w5.setCell ⟨blk, off + (first + r) * 2, none⟩ (.int .i64 y1)).setCell ⟨blk, off + (first + r) * 2 + 1, none⟩ (.int .i64 y2)).setCell ⟨blk, off + (first + (2 * r + 1)) * 2, none⟩ (.int .i64 x1)).setCell ⟨blk, off + (first + (2 * r + 1)) * 2 + 1, none⟩ (.int .i64 x2)).drew = w6 at S6 ⊢
            clear bi5 ri5 pi5 ei5 bj5 rj5 pj5 ej5
            go_wp2_with fail
            go_roundg (hi - (2 * r + 1))
            case measure => omega
            case rel => exact ⟨2 * r + 1, swp dk (first + r) (first + (2 * r + 1)), by go_num, by omega, by omega, by rw [size_swp]; exact hsk, S6, (sift_left_go _ _ _ _ (by omega) (Or.inr HV'.out) HU'.out).symm.trans HO.out⟩
          · have hcd : decide (c < 0) = false := decide_eq_false hcl
            replace HU := HU.out.trans hcd
            have HU' : Aside _ := HU
            clear HU
            go_wp2_with fail
            go_quiet_grown (first | (go_at_call 43; refine Calls.grown_of (hcc _)))
            have S5 : Aside _ := S2.out.grow nq osq
            clear c11 c12 c21 c22 hcc
            generalize grow (w2.drewN nq) osq = w5 at S5 ⊢
            clear nq osq
            clear bi4 ri4 pi4 ei4 bj4 rj4 pj4 ej4
            go_wp2_with fail
            (try simp only [Exit.inBlock, Exit.then]); refine bodyPost_ret (results_none rfl _ _ _) rfl ?_
            exact ⟨rfl, by rw [← HO.out, sift_left_stop _ _ _ _ (by omega) (Or.inr HV'.out) HU'.out]; exact S5.out⟩
      · have hrtz : decide (2 * (r : Int) + 1 + 1 < (hi : Int)) = false := by refine decide_eq_false ?_; omega
        have wch : IntKind.i64.wrap (2 * (r : Int) + 1 + 1) = 2 * (r : Int) + 1 + 1 := by rw [IntKind.wrap_i64]; omega
        go_wp2_with fail
        go_quiet (fail)
        have S2 : Aside _ := Sk.out.drewN nq
        generalize wr.drewN nq = w2 at S2 ⊢
        clear nq
        have bi6 : (first : Int) + (r : Int) < (n : Int) := by omega
        have ri6 : IntKind.i64.wrap ((first : Int) + (r : Int)) = (first : Int) + (r : Int) := by rw [IntKind.wrap_i64]; omega
        have pi6 : (0 : Int) ≤ (first : Int) + (r : Int) := by omega
        have ei6 : ((first : Int) + (r : Int)).toNat = first + r := by omega
        have bj6 : (first : Int) + (2 * (r : Int) + 1) < (n : Int) := by omega
        have rj6 : IntKind.i64.wrap ((first : Int) + (2 * (r : Int) + 1)) = (first : Int) + (2 * (r : Int) + 1) := by rw [IntKind.wrap_i64]; omega
        have pj6 : (0 : Int) ≤ (first : Int) + (2 * (r : Int) + 1) := by omega
        have ej6 : ((first : Int) + (2 * (r : Int) + 1)).toNat = first + (2 * r + 1) := by omega
        obtain ⟨⟨x1, x2⟩, hx⟩ : ∃ x : It, x = dk[first + r]! := ⟨_, rfl⟩
        obtain ⟨⟨y1, y2⟩, hy⟩ : ∃ y : It, y = dk[first + (2 * r + 1)]! := ⟨_, rfl⟩
        have c11 := fun n' os => (S2.out.cells (i := first + r) (by omega) hx n' os).1
        have c12 := fun n' os => (S2.out.cells (i := first + r) (by omega) hx n' os).2
        have c21 := fun n' os => (S2.out.cells (i := first + (2 * r + 1)) (by omega) hy n' os).1
        have c22 := fun n' os => (S2.out.cells (i := first + (2 * r + 1)) (by omega) hy n' os).2
        have hcc := CmpC.out HC (x1, x2) (y1, y2)
        dsimp only [vIt] at c11 c12 c21 c22 hcc
        obtain ⟨c, hc⟩ : ∃ c, c = cf (x1, x2) (y1, y2) := ⟨_, rfl⟩
        rw [← hc] at hcc
        have HU : Aside (ltC cf dk[first + r]! dk[first + (2 * r + 1)]! = decide (c < 0)) := by show ltC cf _ _ = _; rw [← hx, ← hy, hc]; rfl
        clear hx hy hc
        by_cases hcl : c < 0
        · have hcd : decide (c < 0) = true := decide_eq_true hcl
          replace HU := HU.out.trans hcd
          have HU' : Aside _ := HU
          clear HU
          go_wp2_with fail
          go_quiet_grown (first | (go_at_call 43; refine Calls.grown_of (hcc _)))
          have S5 : Aside _ := S2.out.grow nq osq
          clear c11 c12 c21 c22 hcc
          generalize grow (w2.drewN nq) osq = w5 at S5 ⊢
          clear nq osq
          clear bi6 ri6 pi6 ei6 bj6 rj6 pj6 ej6
          have bi7 : (first : Int) + (r : Int) < (n : Int) := by omega
          have ri7 : IntKind.i64.wrap ((first : Int) + (r : Int)) = (first : Int) + (r : Int) := by rw [IntKind.wrap_i64]; omega
          have pi7 : (0 : Int) ≤ (first : Int) + (r : Int) := by omega
          have ei7 : ((first : Int) + (r : Int)).toNat = first + r := by omega
          have bj7 : (first : Int) + (2 * (r : Int) + 1) < (n : Int) := by omega
          have rj7 : IntKind.i64.wrap ((first : Int) + (2 * (r : Int) + 1)) = (first : Int) + (2 * (r : Int) + 1) := by rw [IntKind.wrap_i64]; omega
          have pj7 : (0 : Int) ≤ (first : Int) + (2 * (r : Int) + 1) := by omega
          have ej7 : ((first : Int) + (2 * (r : Int) + 1)).toNat = first + (2 * r + 1) := by omega
          obtain ⟨⟨x1, x2⟩, hx⟩ : ∃ x : It, x = dk[first + r]! := ⟨_, rfl⟩
          obtain ⟨⟨y1, y2⟩, hy⟩ : ∃ y : It, y = dk[first + (2 * r + 1)]! := ⟨_, rfl⟩
          obtain ⟨c11, c12, f11, f12⟩ := S5.out.holds (first + r) (by omega)
          obtain ⟨c21, c22, f21, f22⟩ := S5.out.holds (first + (2 * r + 1)) (by omega)
          rw [← hx] at c11 c12
          rw [← hy] at c21 c22
          dsimp only at c11 c12 c21 c22
          obtain ⟨u3, g3⟩ := S5.out.third (first + r) (first + (2 * r + 1)) (by omega) (by omega) (.int .i64 y1) (.int .i64 y2)
          obtain ⟨u4, g4⟩ := S5.out.fourth (first + r) (first + (2 * r + 1)) (by omega) (by omega) (.int .i64 y1) (.int .i64 y2) (.int .i64 x1)
          have S6 : Aside _ := (S5.out.swap (by omega) (by omega) hx hy).drew
          dsimp only at S6
          clear hx hy
          go_wp2_with fail
          go_region
          clear c11 c12 c21 c22 f11 f12 f21 f22 g3 g4
          generalize ((((w5.setCell ⟨blk, off + (first + r) * 2, none⟩ (.int .i64 y1)).setCell ⟨blk, off + (first + r) * 2 + 1, none⟩ (.int .i64 y2)).setCell ⟨blk, off + (first + (2 * r + 1)) * 2, none⟩ (.int .i64 x1)).setCell ⟨blk, off + (first + (2 * r + 1)) * 2 + 1, none⟩ (.int .i64 x2)).drew = w6 at S6 ⊢
          clear bi7 ri7 pi7 ei7 bj7 rj7 pj7 ej7
          go_wp2_with fail
          go_roundg (hi - (2 * r + 1))
          case measure => omega
          case rel => exact ⟨2 * r + 1, swp dk (first + r) (first + (2 * r + 1)), by go_num, by omega, by omega, by rw [size_swp]; exact hsk, S6, (sift_left_go _ _ _ _ (by omega) (Or.inl hrt) HU'.out).symm.trans HO.out⟩
        · have hcd : decide (c < 0) = false := decide_eq_false hcl
          replace HU := HU.out.trans hcd
          have HU' : Aside _ := HU
          clear HU
          go_wp2_with fail
          go_quiet_grown (first | (go_at_call 43; refine Calls.grown_of (hcc _)))
          have S5 : Aside _ := S2.out.grow nq osq
          clear c11 c12 c21 c22 hcc
          generalize grow (w2.drewN nq) osq = w5 at S5 ⊢
          clear nq osq
          clear bi6 ri6 pi6 ei6 bj6 rj6 pj6 ej6
          go_wp2_with fail
          (try simp only [Exit.inBlock, Exit.then]); refine bodyPost_ret (results_none rfl _ _ _) rfl ?_
          exact ⟨rfl, by rw [← HO.out, sift_left_stop _ _ _ _ (by omega) (Or.inl hrt) HU'.out]; exact S5.out⟩
end Go.Proofs.YtglgmkikegbchaaGreat

/- heapSort: the text by a function that compares, over elements of two cells. -/
namespace Go.Proofs.YtglgmkikegbchaaGreat
open Go.RowKit Go.Sort

set_option maxHeartbeats 4000000 in
set_option maxRecDepth 1000000 in
theorem heapSort_c (O : Value) (cf : It → It → Int) (hC : CmpC O cf) (w0 : World) (blk off cap n : Nat) (d : Array It) (w : World) (S : St2 w0 blk off d w) (hn : d.size = n) (hsz : n < 4611686018427387904) (a b : Nat) (hab : a ≤ b) (hb : b ≤ n) :
    Calls Tryz.prog 126 #[.slice (some ⟨blk, off, none⟩) n cap, .int .i64 a, .int .i64 b, .func (.func 43) #[O] #[]] w fun e w' =>
      e = .returned (.tuple #[]) ∧ St2 w0 blk off (heapSort (ltC cf) d a b) w' := by
  obtain ⟨H, hH⟩ : ∃ H, H = b - a := ⟨_, rfl⟩
  have hHz : (b : Int) - (a : Int) = (H : Int) := by omega
  have haH : a + H ≤ n := by omega
  have hh : ((H : Int) - 1).tdiv 2 = (((H - 1) / 2 : Nat) : Int) := by
    rcases Nat.eq_zero_or_pos H with h | h
    · subst h; rfl
    · rw [show (H : Int) - 1 = ((H - 1 : Nat) : Int) by omega]; rfl
  have hEQ : heapSort (ltC cf) d a b = heapPop (ltC cf) a H (heapBuild (ltC cf) H a ((H - 1) / 2 + 1) d) := by rw [heapSort, hH]
  rw [hEQ]
  obtain ⟨h2, hh2⟩ : ∃ h2, h2 = (H - 1) / 2 := ⟨_, rfl⟩
  rw [← hh2] at hh ⊢
  have h2n : h2 ≤ n := by omega
  obtain ⟨D, hD⟩ : ∃ D, D = heapPop (ltC cf) a H (heapBuild (ltC cf) H a (h2 + 1) d) := ⟨_, rfl⟩
  rw [← hD]
  have HD0 : Hid (heapPop (ltC cf) a H (heapBuild (ltC cf) H a (h2 + 1) d) = D) := hD.symm
  clear hEQ hh2 hH hab hb hD
  have mixed : Tryz.prog.follows .mixedOrders = true := by kernel_rfl
  have HC : Aside (CmpC O cf) := hC
  have S0 : Aside (St2 w0 blk off d w) := S
  clear S
  go_enter Tryz.func126, Tryz.ntmps126
  go_wp2_with fail
  go_loopg [11] (h2 + 1) (fun g vi wr => ∃ (K : Int) (k : Nat) (dk : Array It), vi = .int .i64 K ∧ K + 1 = (k : Int) ∧ k ≤ h2 + 1 ∧ k ≤ g ∧ dk.size = n ∧ Aside (St2 w0 blk off dk wr) ∧ Hid (heapBuild (ltC cf) H a k dk = heapBuild (ltC cf) H a (h2 + 1) d))
  case atStart => exact ⟨(h2 : Int), h2 + 1, d, rfl, by omega, Nat.le_refl _, Nat.le_refl _, hn, S0, rfl⟩
  case round =>
    obtain ⟨K, k, dk, rfl, hK, hk, hg, hsk, Sk, HO⟩ := hrel
    by_cases hK0 : 0 ≤ K
    · obtain ⟨kp, rfl⟩ := Int.eq_ofNat_of_zero_le hK0
      obtain rfl : k = kp + 1 := by omega
      clear hK
      have hc1 := siftDown_c O cf hC w0 blk off cap n dk wr Sk.out hsk hsz kp H a (by omega) haH
      go_wp2_with fail
      refine hc1.mono ?_
      rintro e w2 ⟨rfl, S2q⟩
      have S2 : Aside _ := S2q
      clear hc1 S2q
      go_wp2_with fail
      go_roundg kp
      case measure => omega
      case rel => exact ⟨(kp : Int) - 1, kp, siftDown (ltC cf) H a kp dk, by go_num, by omega, by omega, by omega, by rw [size_siftDown _ _ _ _ (by omega)]; exact hsk, S2, HO⟩
    · obtain rfl : k = 0 := by omega
      have HD : Hid (heapPop (ltC cf) a H dk = D) := by show _ = _; rw [← HD0.out, ← HO.out]; rfl
      clear HO hh hK hk h2n HD0
      go_wp2_with fail
      go_loopg [12] H (fun g vi wr => ∃ (K : Int) (k : Nat) (dk : Array It), vi = .int .i64 K ∧ K + 1 = (k : Int) ∧ k ≤ H ∧ k ≤ g ∧ dk.size = n ∧ Aside (St2 w0 blk off dk wr) ∧ Hid (heapPop (ltC cf) a k dk = D))
      case atStart => exact ⟨(H : Int) - 1, H, dk, by go_num, by omega, Nat.le_refl _, Nat.le_refl _, hsk, Sk, HD⟩
      case round =>
        obtain ⟨K, k, dk, rfl, hK, hk, hg, hsk, Sk, HO⟩ := hrel
        by_cases hK0 : 0 ≤ K
        · obtain ⟨kp, rfl⟩ := Int.eq_ofNat_of_zero_le hK0
          obtain rfl : k = kp + 1 := by omega
          clear hK
          have bi2 : (a : Int) < (n : Int) := by omega
          have ri2 : IntKind.i64.wrap ((a : Int)) = (a : Int) := by rw [IntKind.wrap_i64]; omega
          have bj2 : (a : Int) + (kp : Int) < (n : Int) := by omega
          have rj2 : IntKind.i64.wrap ((a : Int) + (kp : Int)) = (a : Int) + (kp : Int) := by rw [IntKind.wrap_i64]; omega
          have pj2 : (0 : Int) ≤ (a : Int) + (kp : Int) := by omega
          have ej2 : ((a : Int) + (kp : Int)).toNat = a + kp := by omega
          obtain ⟨⟨x1, x2⟩, hx⟩ : ∃ x : It, x = dk[a]! := ⟨_, rfl⟩
          obtain ⟨⟨y1, y2⟩, hy⟩ : ∃ y : It, y = dk[a + kp]! := ⟨_, rfl⟩
          obtain ⟨c11, c12, f11, f12⟩ := Sk.out.holds (a) (by omega)
          obtain ⟨c21, c22, f21, f22⟩ := Sk.out.holds (a + kp) (by omega)
          rw [← hx] at c11 c12
          rw [← hy] at c21 c22
          dsimp only at c11 c12 c21 c22
          obtain ⟨u3, g3⟩ := Sk.out.third (a) (a + kp) (by omega) (by omega) (.int .i64 y1) (.int .i64 y2)
          obtain ⟨u4, g4⟩ := Sk.out.fourth (a) (a + kp) (by omega) (by omega) (.int .i64 y1) (.int .i64 y2) (.int .i64 x1)
          have S2 : Aside _ := (Sk.out.swap (by omega) (by omega) hx hy).drew
          dsimp only at S2
          clear hx hy
          go_wp2_with fail
          go_region
          clear c11 c12 c21 c22 f11 f12 f21 f22 g3 g4
          generalize ((((wr.setCell ⟨blk, off + (a) * 2, none⟩ (.int .i64 y1)).setCell ⟨blk, off + (a) * 2 + 1, none⟩ (.int .i64 y2)).setCell ⟨blk, off + (a + kp) * 2, none⟩ (.int .i64 x1)).setCell ⟨blk, off + (a + kp) * 2 + 1, none⟩ (.int .i64 x2)).drew = w2 at S2 ⊢
          clear bi2 ri2 bj2 rj2 pj2 ej2
          have hc3 := siftDown_c O cf hC w0 blk off cap n (swp dk a (a + kp)) w2 S2.out (by rw [size_swp]; exact hsk) hsz 0 kp a (by omega) (by omega)
          go_wp2_with fail
          refine hc3.mono ?_
          rintro e w3 ⟨rfl, S3q⟩
          have S3 : Aside _ := S3q
          clear hc3 S3q
          go_wp2_with fail
          go_roundg kp
          case measure => omega
          case rel => exact ⟨(kp : Int) - 1, kp, siftDown (ltC cf) kp a 0 (swp dk a (a + kp)), by go_num, by omega, by omega, by omega, by rw [size_siftDown _ _ _ _ (by rw [size_swp]; omega), size_swp]; exact hsk, S3, HO⟩
        · obtain rfl : k = 0 := by omega
          have hB : dk = D := HO.out
          subst hB
          go_wp2_with fail
          go_end0
          exact ⟨rfl, Sk.out⟩
end Go.Proofs.YtglgmkikegbchaaGreat

/- siftDown: the text over an Interface. -/
namespace Go.Proofs.YtglgmkikegbchaaGreat
open Go.RowKit Go.Sort

set_option maxHeartbeats 4000000 in
set_option maxRecDepth 1000000 in
theorem siftDown_f (T : TypeId) (rv : Value) (lt : It → It → Bool) (gl gs : Nat) (rl rs : Value) (w0 : World) (blk off n : Nat) (F : FaceOk T rv lt w0 blk off n gl gs rl rs) (d : Array It) (w : World) (S : St2 w0 blk off d w) (hn : d.size = n) (hsz : n < 4611686018427387904) (lo hi first : Nat) (hlo : lo ≤ n) (hfh : first + hi ≤ n) :
    Calls Tryz.prog 140 #[.iface T rv, .int .i64 lo, .int .i64 hi, .int .i64 first] w fun e w' =>
      e = .returned (.tuple #[]) ∧ St2 w0 blk off (siftDown lt hi first lo d) w' := by
  have eL := F.eL
  have eS := F.eS
  have S0 : Aside (St2 w0 blk off d w) := S
  clear S
  go_enter Tryz.func140, Tryz.ntmps140
  go_wp2
  go_loopg [8] (hi - lo) (fun g vi wr => ∃ (r : Nat) (dk : Array It), vi = .int .i64 r ∧ r ≤ n ∧ hi - r ≤ g ∧ dk.size = n ∧ Aside (St2 w0 blk off dk wr) ∧ Hid (siftDown lt hi first r dk = siftDown lt hi first lo d))
  case atStart => exact ⟨lo, d, rfl, hlo, Nat.le_refl _, hn, S0, rfl⟩
  case round =>
    obtain ⟨r, dk, rfl, hrn, hg, hsk, Sk, HO⟩ := hrel
    by_cases hend : hi ≤ 2 * r + 1
    · have hendz : (hi : Int) ≤ 2 * (r : Int) + 1 := by omega
      go_wp2_with fail
      go_end0
      exact ⟨rfl, by rw [← HO.out, sift_end _ _ _ _ hend]; exact Sk.out⟩
    · have hendz : ¬ (hi : Int) ≤ 2 * (r : Int) + 1 := by omega
      have mL := F.methL _ wr Sk.out
      have mS := F.methS _ wr Sk.out
      by_cases hrt : 2 * r + 2 < hi
      · have hrtz : 2 * (r : Int) + 1 + 1 < (hi : Int) := by omega
        have hl := F.less dk wr (first + (2 * r + 1)) (first + (2 * r + 1) + 1) (by omega) Sk.out (by omega) (by omega)
        rw [show ((first + (2 * r + 1) : Nat) : Int) = (first : Int) + (2 * (r : Int) + 1) by omega] at hl
        rw [show ((first + (2 * r + 1) + 1 : Nat) : Int) = (first : Int) + (2 * (r : Int) + 1) + 1 by omega] at hl
        obtain ⟨c, hc⟩ : ∃ c, c = lt dk[first + (2 * r + 1)]! dk[first + (2 * r + 1) + 1]! := ⟨_, rfl⟩
        rw [← hc] at hl
        have HV : Aside (lt dk[first + (2 * r + 1)]! dk[first + (2 * r + 1) + 1]! = c) := hc.symm
        clear hc
        cases c with
        | true =>
          have HV' : Aside _ := HV
          clear HV
          go_wp2_with fail
          refine hl.mono ?_
          rintro e w' ⟨rfl, q, os, rfl⟩
          have S2 : Aside _ := Sk.out.grow q os
          clear mL mS hl
          generalize grow (wr.drewN q) os = w2 at S2 ⊢
          clear q os
          have mL := F.methL _ w2 S2.out
          have mS := F.methS _ w2 S2.out
          have hl := F.less dk w2 (first + r) (first + (2 * r + 2)) (by omega) S2.out (by omega) (by omega)
          rw [show ((first + r : Nat) : Int) = (first : Int) + (r : Int) by omega] at hl
          rw [show ((first + (2 * r + 2) : Nat) : Int) = (first : Int) + (2 * (r : Int) + 1 + 1) by omega] at hl
          obtain ⟨c, hc⟩ : ∃ c, c = lt dk[first + r]! dk[first + (2 * r + 2)]! := ⟨_, rfl⟩
          rw [← hc] at hl
          have HU : Aside (lt dk[first + r]! dk[first + (2 * r + 2)]! = c) := hc.symm
          clear hc
          cases c with
          | true =>
            have HU' : Aside _ := HU
            clear HU
            go_wp2_with fail
            refine hl.mono ?_
            rintro e w' ⟨rfl, q, os, rfl⟩
            have S5 : Aside _ := S2.out.grow q os
            clear mL mS hl
            generalize grow (w2.drewN q) os = w5 at S5 ⊢
            clear q os
            have mL := F.methL _ w5 S5.out
            have mS := F.methS _ w5 S5.out
            have hs := F.swap dk w5 (first + r) (first + (2 * r + 2)) (by omega) S5.out (by omega) (by omega)
            rw [show ((first + r : Nat) : Int) = (first : Int) + (r : Int) by omega] at hs
            rw [show ((first + (2 * r + 2) : Nat) : Int) = (first : Int) + (2 * (r : Int) + 1 + 1) by omega] at hs
            go_wp2_with fail
            refine hs.mono ?_
            rintro e w6 ⟨rfl, S6q, hgr⟩
            have S6 : Aside _ := S6q
            clear mL mS hs hgr S6q
            have mL := F.methL _ w6 S6.out
            have mS := F.methS _ w6 S6.out
            go_wp2_with fail
            go_roundg (hi - (2 * r + 2))
            case measure => omega
            case rel => exact ⟨2 * r + 2, swp dk (first + r) (first + (2 * r + 2)), by go_num, by omega, by omega, by rw [size_swp]; exact hsk, S6, (sift_right_go _ _ _ _ hrt HV'.out HU'.out).symm.trans HO.out⟩
          | false =>
            have HU' : Aside _ := HU
            clear HU
            go_wp2_with fail
            refine hl.mono ?_
            rintro e w' ⟨rfl, q, os, rfl⟩
            have S5 : Aside _ := S2.out.grow q os
            clear mL mS hl
            generalize grow (w2.drewN q) os = w5 at S5 ⊢
            clear q os
            have mL := F.methL _ w5 S5.out
            have mS := F.methS _ w5 S5.out
            go_wp2_with fail
            (try simp only [Exit.inBlock, Exit.then]); refine bodyPost_ret (results_none rfl _ _ _) rfl ?_
            exact ⟨rfl, by rw [← HO.out, sift_right_stop _ _ _ _ hrt HV'.out HU'.out]; exact S5.out⟩
        | false =>
          have HV' : Aside _ := HV
          clear HV
          go_wp2_with fail
          refine hl.mono ?_
          rintro e w' ⟨rfl, q, os, rfl⟩
          have S2 : Aside _ := Sk.out.grow q os
          clear mL mS hl
          generalize grow (wr.drewN q) os = w2 at S2 ⊢
          clear q os
          have mL := F.methL _ w2 S2.out
          have mS := F.methS _ w2 S2.out
          have hl := F.less dk w2 (first + r) (first + (2 * r + 1)) (by omega) S2.out (by omega) (by omega)
          rw [show ((first + r : Nat) : Int) = (first : Int) + (r : Int) by omega] at hl
          rw [show ((first + (2 * r + 1) : Nat) : Int) = (first : Int) + (2 * (r : Int) + 1) by omega] at hl
          obtain ⟨c, hc⟩ : ∃ c, c = lt dk[first + r]! dk[first + (2 * r + 1)]! := ⟨_, rfl⟩
          rw [← hc] at hl
          have HU : Aside (lt dk[first + r]! dk[first + (2 * r + 1)]! = c) := hc.symm
          clear hc
          cases c with
          | true =>
            have HU' : Aside _ := HU
            clear HU
            go_wp2_with fail
            refine hl.mono ?_
            rintro e w' ⟨rfl, q, os, rfl⟩
            have S5 : Aside _ := S2.out.grow q os
            clear mL mS hl
            generalize grow (w2.drewN q) os = w5 at S5 ⊢
            clear q os
            have mL := F.methL _ w5 S5.out
            have mS := F.methS _ w5 S5.out
            have hs := F.swap dk w5 (first + r) (first + (2 * r + 1)) (by omega) S5.out (by omega) (by omega)
            rw [show ((first + r : Nat) : Int) = (first : Int) + (r : Int) by omega] at hs
            rw [show ((first + (2 * r + 1) : Nat) : Int) = (first : Int) + (2 * (r : Int) + 1) by omega] at hs
            go_wp2_with fail
            refine hs.mono ?_
            rintro e w6 ⟨rfl, S6q, hgr⟩
            have S6 : Aside _ := S6q
            clear mL mS hs hgr S6q
            have mL := F.methL _ w6 S6.out
            have mS := F.methS _ w6 S6.out
            go_wp2_with fail
            go_roundg (hi - (2 * r + 1))
            case measure => omega
            case rel => exact ⟨2 * r + 1, swp dk (first + r) (first + (2 * r + 1)), by go_num, by omega, by omega, by rw [size_swp]; exact hsk, S6, (sift_left_go _ _ _ _ (by omega) (Or.inr HV'.out) HU'.out).symm.trans HO.out⟩
          | false =>
            have HU' : Aside _ := HU
            clear HU
            go_wp2_with fail
            refine hl.mono ?_
            rintro e w' ⟨rfl, q, os, rfl⟩
            have S5 : Aside _ := S2.out.grow q os
            clear mL mS hl
            generalize grow (w2.drewN q) os = w5 at S5 ⊢
            clear q os
            have mL := F.methL _ w5 S5.out
            have mS := F.methS _ w5 S5.out
            go_wp2_with fail
            (try simp only [Exit.inBlock, Exit.then]); refine bodyPost_ret (results_none rfl _ _ _) rfl ?_
            exact ⟨rfl, by rw [← HO.out, sift_left_stop _ _ _ _ (by omega) (Or.inr HV'.out) HU'.out]; exact S5.out⟩
      · have hrtz : ¬ 2 * (r : Int) + 1 + 1 < (hi : Int) := by omega
        have hl := F.less dk wr (first + r) (first + (2 * r + 1)) (by omega) Sk.out (by omega) (by omega)
        rw [show ((first + r : Nat) : Int) = (first : Int) + (r : Int) by omega] at hl
        rw [show ((first + (2 * r + 1) : Nat) : Int) = (first : Int) + (2 * (r : Int) + 1) by omega] at hl
        obtain ⟨c, hc⟩ : ∃ c, c = lt dk[first + r]! dk[first + (2 * r + 1)]! := ⟨_, rfl⟩
        rw [← hc] at hl
        have HU : Aside (lt dk[first + r]! dk[first + (2 * r + 1)]! = c) := hc.symm
        clear hc
        cases c with
        | true =>
          have HU' : Aside _ := HU
          clear HU
          go_wp2_with fail
          refine hl.mono ?_
          rintro e w' ⟨rfl, q, os, rfl⟩
          have S5 : Aside _ := Sk.out.grow q os
          clear mL mS hl
          generalize grow (wr.drewN q) os = w5 at S5 ⊢
          clear q os
          have mL := F.methL _ w5 S5.out
          have mS := F.methS _ w5 S5.out
          have hs := F.swap dk w5 (first + r) (first + (2 * r + 1)) (by omega) S5.out (by omega) (by omega)
          rw [show ((first + r : Nat) : Int) = (first : Int) + (r : Int) by omega] at hs
          rw [show ((first + (2 * r + 1) : Nat) : Int) = (first : Int) + (2 * (r : Int) + 1) by omega] at hs
          go_wp2_with fail
          refine hs.mono ?_
          rintro e w6 ⟨rfl, S6q, hgr⟩
          have S6 : Aside _ := S6q
          clear mL mS hs hgr S6q
          have mL := F.methL _ w6 S6.out
          have mS := F.methS _ w6 S6.out
          go_wp2_with fail
          go_roundg (hi - (2 * r + 1))
          case measure => omega
          case rel => exact ⟨2 * r + 1, swp dk (first + r) (first + (2 * r + 1)), by go_num, by omega, by omega, by rw [size_swp]; exact hsk, S6, (sift_left_go _ _ _ _ (by omega) (Or.inl hrt) HU'.out).symm.trans HO.out⟩
        | false =>
          have HU' : Aside _ := HU
          clear HU
          go_wp2_with fail
          refine hl.mono ?_
          rintro e w' ⟨rfl, q, os, rfl⟩
          have S5 : Aside _ := Sk.out.grow q os
          clear mL mS hl
          generalize grow (wr.drewN q) os = w5 at S5 ⊢
          clear q os
          have mL := F.methL _ w5 S5.out
          have mS := F.methS _ w5 S5.out
          go_wp2_with fail
          (try simp only [Exit.inBlock, Exit.then]); refine bodyPost_ret (results_none rfl _ _ _) rfl ?_
          exact ⟨rfl, by rw [← HO.out, sift_left_stop _ _ _ _ (by omega) (Or.inl hrt) HU'.out]; exact S5.out⟩
end Go.Proofs.YtglgmkikegbchaaGreat

/- heapSort: the text over an Interface. -/
namespace Go.Proofs.YtglgmkikegbchaaGreat
open Go.RowKit Go.Sort

set_option maxHeartbeats 4000000 in
set_option maxRecDepth 1000000 in
theorem heapSort_f (T : TypeId) (rv : Value) (lt : It → It → Bool) (gl gs : Nat) (rl rs : Value) (w0 : World) (blk off n : Nat) (F : FaceOk T rv lt w0 blk off n gl gs rl rs) (d : Array It) (w : World) (S : St2 w0 blk off d w) (hn : d.size = n) (hsz : n < 4611686018427387904) (a b : Nat) (hab : a ≤ b) (hb : b ≤ n) :
    Calls Tryz.prog 141 #[.iface T rv, .int .i64 a, .int .i64 b] w fun e w' =>
      e = .returned (.tuple #[]) ∧ St2 w0 blk off (heapSort lt d a b) w' := by
  obtain ⟨H, hH⟩ : ∃ H, H = b - a := ⟨_, rfl⟩
  have hHz : (b : Int) - (a : Int) = (H : Int) := by omega
  have haH : a + H ≤ n := by omega
  have hh : ((H : Int) - 1).tdiv 2 = (((H - 1) / 2 : Nat) : Int) := by
    rcases Nat.eq_zero_or_pos H with h | h
    · subst h; rfl
    · rw [show (H : Int) - 1 = ((H - 1 : Nat) : Int) by omega]; rfl
  have hEQ : heapSort lt d a b = heapPop lt a H (heapBuild lt H a ((H - 1) / 2 + 1) d) := by rw [heapSort, hH]
  rw [hEQ]
  obtain ⟨h2, hh2⟩ : ∃ h2, h2 = (H - 1) / 2 := ⟨_, rfl⟩
  rw [← hh2] at hh ⊢
  have h2n : h2 ≤ n := by omega
  obtain ⟨D, hD⟩ : ∃ D, D = heapPop lt a H (heapBuild lt H a (h2 + 1) d) := ⟨_, rfl⟩
  rw [← hD]
  have HD0 : Hid (heapPop lt a H (heapBuild lt H a (h2 + 1) d) = D) := hD.symm
  clear hEQ hh2 hH hab hb hD
  have eL := F.eL
  have eS := F.eS
  have S0 : Aside (St2 w0 blk off d w) := S
  clear S
  go_enter Tryz.func141, Tryz.ntmps141
  go_wp2_with fail
  go_loopg [9] (h2 + 1) (fun g vi wr => ∃ (K : Int) (k : Nat) (dk : Array It), vi = .int .i64 K ∧ K + 1 = (k : Int) ∧ k ≤ h2 + 1 ∧ k ≤ g ∧ dk.size = n ∧ Aside (St2 w0 blk off dk wr) ∧ Hid (heapBuild lt H a k dk = heapBuild lt H a (h2 + 1) d))
  case atStart => exact ⟨(h2 : Int), h2 + 1, d, rfl, by omega, Nat.le_refl _, Nat.le_refl _, hn, S0, rfl⟩
  case round =>
    obtain ⟨K, k, dk, rfl, hK, hk, hg, hsk, Sk, HO⟩ := hrel
    by_cases hK0 : 0 ≤ K
    · obtain ⟨kp, rfl⟩ := Int.eq_ofNat_of_zero_le hK0
      obtain rfl : k = kp + 1 := by omega
      clear hK
      have mL := F.methL _ wr Sk.out
      have mS := F.methS _ wr Sk.out
      have hc1 := siftDown_f T rv lt gl gs rl rs w0 blk off n F dk wr Sk.out hsk hsz kp H a (by omega) haH
      go_wp2_with fail
      refine hc1.mono ?_
      rintro e w2 ⟨rfl, S2q⟩
      have S2 : Aside _ := S2q
      clear hc1 S2q
      clear mL mS
      have mL := F.methL _ w2 S2.out
      have mS := F.methS _ w2 S2.out
      go_wp2_with fail
      go_roundg kp
      case measure => omega
      case rel => exact ⟨(kp : Int) - 1, kp, siftDown lt H a kp dk, by go_num, by omega, by omega, by omega, by rw [size_siftDown _ _ _ _ (by omega)]; exact hsk, S2, HO⟩
    · obtain rfl : k = 0 := by omega
      have HD : Hid (heapPop lt a H dk = D) := by show _ = _; rw [← HD0.out, ← HO.out]; rfl
      clear HO hh hK hk h2n HD0
      go_wp2_with fail
      go_loopg [10] H (fun g vi wr => ∃ (K : Int) (k : Nat) (dk : Array It), vi = .int .i64 K ∧ K + 1 = (k : Int) ∧ k ≤ H ∧ k ≤ g ∧ dk.size = n ∧ Aside (St2 w0 blk off dk wr) ∧ Hid (heapPop lt a k dk = D))
      case atStart => exact ⟨(H : Int) - 1, H, dk, by go_num, by omega, Nat.le_refl _, Nat.le_refl _, hsk, Sk, HD⟩
      case round =>
        obtain ⟨K, k, dk, rfl, hK, hk, hg, hsk, Sk, HO⟩ := hrel
        by_cases hK0 : 0 ≤ K
        · obtain ⟨kp, rfl⟩ := Int.eq_ofNat_of_zero_le hK0
          obtain rfl : k = kp + 1 := by omega
          clear hK
          have mL := F.methL _ wr Sk.out
          have mS := F.methS _ wr Sk.out
          have hs := F.swap dk wr (a) (a + kp) (by omega) Sk.out (by omega) (by omega)
          rw [show ((a + kp : Nat) : Int) = (a : Int) + (kp : Int) by omega] at hs
          go_wp2_with fail
          refine hs.mono ?_
          rintro e w2 ⟨rfl, S2q, hgr⟩
          have S2 : Aside _ := S2q
          clear mL mS hs hgr S2q
          have mL := F.methL _ w2 S2.out
          have mS := F.methS _ w2 S2.out
          have hc3 := siftDown_f T rv lt gl gs rl rs w0 blk off n F (swp dk a (a + kp)) w2 S2.out (by rw [size_swp]; exact hsk) hsz 0 kp a (by omega) (by omega)
          go_wp2_with fail
          refine hc3.mono ?_
          rintro e w3 ⟨rfl, S3q⟩
          have S3 : Aside _ := S3q
          clear hc3 S3q
          clear mL mS
          have mL := F.methL _ w3 S3.out
          have mS := F.methS _ w3 S3.out
          go_wp2_with fail
          go_roundg kp
          case measure => omega
          case rel => exact ⟨(kp : Int) - 1, kp, siftDown lt kp a 0 (swp dk a (a + kp)), by go_num, by omega, by omega, by omega, by rw [size_siftDown _ _ _ _ (by rw [size_swp]; omega), size_swp]; exact hsk, S3, HO⟩
        · obtain rfl : k = 0 := by omega
          have hB : dk = D := HO.out
          subst hB
          go_wp2_with fail
          go_end0
          exact ⟨rfl, Sk.out⟩
end Go.Proofs.YtglgmkikegbchaaGreat

/- siftDown: the text over the keys alone. -/
namespace Go.Proofs.YtglgmkikegbchaaGreat
open Go.RowKit Go.Sort

set_option maxHeartbeats 4000000 in
set_option maxRecDepth 1000000 in
theorem siftDown_o (w0 : World) (blk off cap n : Nat) (d : Array Int) (w : World) (S : St1 e64 w0 blk off d w) (hn : d.size = n) (hsz : n < 4611686018427387904) (lo hi first : Nat) (hlo : lo ≤ n) (hfh : first + hi ≤ n) :
    Calls Tryz.prog 155 #[.slice (some ⟨blk, off, none⟩) n cap, .int .i64 lo, .int .i64 hi, .int .i64 first] w fun e w' =>
      e = .returned (.tuple #[]) ∧ St1 e64 w0 blk off (siftDown ltInt hi first lo d) w' := by
  have S0 : Aside (St1 e64 w0 blk off d w) := S
  clear S
  go_enter Tryz.func155, Tryz.ntmps155
  go_wp2
  go_loopg [8] (hi - lo) (fun g vi wr => ∃ (r : Nat) (dk : Array Int), vi = .int .i64 r ∧ r ≤ n ∧ hi - r ≤ g ∧ dk.size = n ∧ Aside (St1 e64 w0 blk off dk wr) ∧ Hid (siftDown ltInt hi first r dk = siftDown ltInt hi first lo d))
  case atStart => exact ⟨lo, d, rfl, hlo, Nat.le_refl _, hn, S0, rfl⟩
  case round =>
    obtain ⟨r, dk, rfl, hrn, hg, hsk, Sk, HO⟩ := hrel
    by_cases hend : hi ≤ 2 * r + 1
    · have hendz : (hi : Int) ≤ 2 * (r : Int) + 1 := by omega
      go_wp2_with fail
      go_end0
      exact ⟨rfl, by rw [← HO.out, sift_end _ _ _ _ hend]; exact Sk.out⟩
    · have hendz : ¬ (hi : Int) ≤ 2 * (r : Int) + 1 := by omega
      by_cases hrt : 2 * r + 2 < hi
      · have hrtz : 2 * (r : Int) + 1 + 1 < (hi : Int) := by omega
        have bi1 : (first : Int) + (2 * (r : Int) + 1) < (n : Int) := by omega
        have pi1 : (0 : Int) ≤ (first : Int) + (2 * (r : Int) + 1) := by omega
        have ei1 : ((first : Int) + (2 * (r : Int) + 1)).toNat = first + (2 * r + 1) := by omega
        have bj1 : (first : Int) + (2 * (r : Int) + 1) + 1 < (n : Int) := by omega
        have pj1 : (0 : Int) ≤ (first : Int) + (2 * (r : Int) + 1) + 1 := by omega
        have ej1 : ((first : Int) + (2 * (r : Int) + 1) + 1).toNat = first + (2 * r + 1) + 1 := by omega
        obtain ⟨x, hx⟩ : ∃ x, x = dk[first + (2 * r + 1)]! := ⟨_, rfl⟩
        obtain ⟨y, hy⟩ : ∃ y, y = dk[first + (2 * r + 1) + 1]! := ⟨_, rfl⟩
        have c1 : wr.cell? ⟨blk, off + (first + (2 * r + 1)), none⟩ = some (.int .i64 x) := by rw [hx]; exact Sk.out.cell (by omega)
        have c2 : wr.cell? ⟨blk, off + (first + (2 * r + 1) + 1), none⟩ = some (.int .i64 y) := by rw [hy]; exact Sk.out.cell (by omega)
        have hless : ∀ c W, ltInt x y = c → Calls Tryz.prog 178 #[.int .i64 x, .int .i64 y] W fun e w' => e = .returned (.bool c) ∧ w' = W := fun c W hc => by rw [← hc]; exact less_o x y W
        obtain ⟨c, hc⟩ : ∃ c, c = ltInt x y := ⟨_, rfl⟩
        have HV : Aside (ltInt dk[first + (2 * r + 1)]! dk[first + (2 * r + 1) + 1]! = c) := by show ltInt _ _ = _; rw [← hx, ← hy, hc]
        replace hless := fun W => hless c W hc.symm
        clear hx hy hc
        cases c with
        | true =>
          have HV' : Aside _ := HV
          clear HV
          go_wp2_with fail
          go_quiet (first | (go_at_call 178; refine Calls.quiet_of_same (hless _)))
          have S2 : Aside _ := Sk.out.drewN nq
          clear c1 c2 hless
          generalize wr.drewN nq = w2 at S2 ⊢
          clear nq
          clear bi1 pi1 ei1 bj1 pj1 ej1
          have bi2 : (first : Int) + (r : Int) < (n : Int) := by omega
          have pi2 : (0 : Int) ≤ (first : Int) + (r : Int) := by omega
          have ei2 : ((first : Int) + (r : Int)).toNat = first + r := by omega
          have bj2 : (first : Int) + (2 * (r : Int) + 1 + 1) < (n : Int) := by omega
          have pj2 : (0 : Int) ≤ (first : Int) + (2 * (r : Int) + 1 + 1) := by omega
          have ej2 : ((first : Int) + (2 * (r : Int) + 1 + 1)).toNat = first + (2 * r + 2) := by omega
          obtain ⟨x, hx⟩ : ∃ x, x = dk[first + r]! := ⟨_, rfl⟩
          obtain ⟨y, hy⟩ : ∃ y, y = dk[first + (2 * r + 2)]! := ⟨_, rfl⟩
          have c1 : w2.cell? ⟨blk, off + (first + r), none⟩ = some (.int .i64 x) := by rw [hx]; exact S2.out.cell (by omega)
          have c2 : w2.cell? ⟨blk, off + (first + (2 * r + 2)), none⟩ = some (.int .i64 y) := by rw [hy]; exact S2.out.cell (by omega)
          have hless : ∀ c W, ltInt x y = c → Calls Tryz.prog 178 #[.int .i64 x, .int .i64 y] W fun e w' => e = .returned (.bool c) ∧ w' = W := fun c W hc => by rw [← hc]; exact less_o x y W
          obtain ⟨c, hc⟩ : ∃ c, c = ltInt x y := ⟨_, rfl⟩
          have HU : Aside (ltInt dk[first + r]! dk[first + (2 * r + 2)]! = c) := by show ltInt _ _ = _; rw [← hx, ← hy, hc]
          replace hless := fun W => hless c W hc.symm
          clear hx hy hc
          cases c with
          | true =>
            have HU' : Aside _ := HU
            clear HU
            go_wp2_with fail
            go_quiet (first | (go_at_call 178; refine Calls.quiet_of_same (hless _)))
            have S5 : Aside _ := S2.out.drewN nq
            clear c1 c2 hless
            generalize w2.drewN nq = w5 at S5 ⊢
            clear nq
            clear bi2 pi2 ei2 bj2 pj2 ej2
            have bi3 : (first : Int) + (r : Int) < (n : Int) := by omega
            have pi3 : (0 : Int) ≤ (first : Int) + (r : Int) := by omega
            have ei3 : ((first : Int) + (r : Int)).toNat = first + r := by omega
            have bj3 : (first : Int) + (2 * (r : Int) + 1 + 1) < (n : Int) := by omega
            have pj3 : (0 : Int) ≤ (first : Int) + (2 * (r : Int) + 1 + 1) := by omega
            have ej3 : ((first : Int) + (2 * (r : Int) + 1 + 1)).toNat = first + (2 * r + 2) := by omega
            obtain ⟨x, hx⟩ : ∃ x, x = dk[first + r]! := ⟨_, rfl⟩
            obtain ⟨y, hy⟩ : ∃ y, y = dk[first + (2 * r + 2)]! := ⟨_, rfl⟩
            have c1 : w5.cell? ⟨blk, off + (first + r), none⟩ = some (.int .i64 x) := by rw [hx]; exact S5.out.cell (by omega)
            have c2 : w5.cell? ⟨blk, off + (first + (2 * r + 2)), none⟩ = some (.int .i64 y) := by rw [hy]; exact S5.out.cell (by omega)
            have f1 : w5.frozen? ⟨blk, off + (first + r), none⟩ = false := S5.out.frozen (by omega)
            have f2 : w5.frozen? ⟨blk, off + (first + (2 * r + 2)), none⟩ = false := S5.out.frozen (by omega)
            obtain ⟨u2, g2⟩ := S5.out.second (first + r) (first + (2 * r + 2)) (by omega) (by omega) (.int .i64 y)
            have S6 : Aside _ := (S5.out.swap (by omega) (by omega) hx hy).drew
            clear hx hy
            go_wp2_with fail
            go_region
            clear c1 c2 f1 f2 g2
            generalize ((w5.setCell ⟨blk, off + (first + r), none⟩ (.int .i64 y)).setCell ⟨blk, off + (first + (2 * r + 2)), none⟩ (.int .i64 x)).drew = w6 at S6 ⊢
            clear bi3 pi3 ei3 bj3 pj3 ej3
            go_wp2_with fail
            go_roundg (hi - (2 * r + 2))
            case measure => omega
            case rel => exact ⟨2 * r + 2, swp dk (first + r) (first + (2 * r + 2)), by go_num, by omega, by omega, by rw [size_swp]; exact hsk, S6, (sift_right_go _ _ _ _ hrt HV'.out HU'.out).symm.trans HO.out⟩
          | false =>
            have HU' : Aside _ := HU
            clear HU
            go_wp2_with fail
            go_quiet (first | (go_at_call 178; refine Calls.quiet_of_same (hless _)))
            have S5 : Aside _ := S2.out.drewN nq
            clear c1 c2 hless
            generalize w2.drewN nq = w5 at S5 ⊢
            clear nq
            clear bi2 pi2 ei2 bj2 pj2 ej2
            go_wp2_with fail
            (try simp only [Exit.inBlock, Exit.then]); refine bodyPost_ret (results_none rfl _ _ _) rfl ?_
            exact ⟨rfl, by rw [← HO.out, sift_right_stop _ _ _ _ hrt HV'.out HU'.out]; exact S5.out⟩
        | false =>
          have HV' : Aside _ := HV
          clear HV
          go_wp2_with fail
          go_quiet (first | (go_at_call 178; refine Calls.quiet_of_same (hless _)))
          have S2 : Aside _ := Sk.out.drewN nq
          clear c1 c2 hless
          generalize wr.drewN nq = w2 at S2 ⊢
          clear nq
          clear bi1 pi1 ei1 bj1 pj1 ej1
          have bi4 : (first : Int) + (r : Int) < (n : Int) := by omega
          have pi4 : (0 : Int) ≤ (first : Int) + (r : Int) := by omega
          have ei4 : ((first : Int) + (r : Int)).toNat = first + r := by omega
          have bj4 : (first : Int) + (2 * (r : Int) + 1) < (n : Int) := by omega
          have pj4 : (0 : Int) ≤ (first : Int) + (2 * (r : Int) + 1) := by omega
          have ej4 : ((first : Int) + (2 * (r : Int) + 1)).toNat = first + (2 * r + 1) := by omega
          obtain ⟨x, hx⟩ : ∃ x, x = dk[first + r]! := ⟨_, rfl⟩
          obtain ⟨y, hy⟩ : ∃ y, y = dk[first + (2 * r + 1)]! := ⟨_, rfl⟩
          have c1 : w2.cell? ⟨blk, off + (first + r), none⟩ = some (.int .i64 x) := by rw [hx]; exact S2.out.cell (by omega)
          have c2 : w2.cell? ⟨blk, off + (first + (2 * r + 1)), none⟩ = some (.int .i64 y) := by rw [hy]; exact S2.out.cell (by omega)
          have hless : ∀ c W, ltInt x y = c → Calls Tryz.prog 178 #[.int .i64 x, .int .i64 y] W fun e w' => e = .returned (.bool c) ∧ w' = W := fun c W hc => by rw [← hc]; exact less_o x y W
          obtain ⟨c, hc⟩ : ∃ c, c = ltInt x y := ⟨_, rfl⟩
          have HU : Aside (ltInt dk[first + r]! dk[first + (2 * r + 1)]! = c) := by show ltInt _ _ = _; rw [← hx, ← hy, hc]
          replace hless := fun W => hless c W hc.symm
          clear hx hy hc
          cases c with
          | true =>
            have HU' : Aside _ := HU
            clear HU
            go_wp2_with fail
            go_quiet (first | (go_at_call 178; refine Calls.quiet_of_same (hless _)))
            have S5 : Aside _ := S2.out.drewN nq
            clear c1 c2 hless
            generalize w2.drewN nq = w5 at S5 ⊢
            clear nq
            clear bi4 pi4 ei4 bj4 pj4 ej4
            have bi5 : (first : Int) + (r : Int) < (n : Int) := by omega
            have pi5 : (0 : Int) ≤ (first : Int) + (r : Int) := by omega
            have ei5 : ((first : Int) + (r : Int)).toNat = first + r := by omega
            have bj5 : (first : Int) + (2 * (r : Int) + 1) < (n : Int) := by omega
            have pj5 : (0 : Int) ≤ (first : Int) + (2 * (r : Int) + 1) := by omega
            have ej5 : ((first : Int) + (2 * (r : Int) + 1)).toNat = first + (2 * r + 1) := by omega
            obtain ⟨x, hx⟩ : ∃ x, x = dk[first + r]! := ⟨_, rfl⟩
            obtain ⟨y, hy⟩ : ∃ y, y = dk[first + (2 * r + 1)]! := ⟨_, rfl⟩
            have c1 : w5.cell? ⟨blk, off + (first + r), none⟩ = some (.int .i64 x) := by rw [hx]; exact S5.out.cell (by omega)
            have c2 : w5.cell? ⟨blk, off + (first + (2 * r + 1)), none⟩ = some (.int .i64 y) := by rw [hy]; exact S5.out.cell (by omega)
            have f1 : w5.frozen? ⟨blk, off + (first + r), none⟩ = false := S5.out.frozen (by omega)
            have f2 : w5.frozen? ⟨blk, off + (first + (2 * r + 1)), none⟩ = false := S5.out.frozen (by omega)
            obtain ⟨u2, g2⟩ := S5.out.second (first + r) (first + (2 * r + 1)) (by omega) (by omega) (.int .i64 y)
            have S6 : Aside _ := (S5.out.swap (by omega) (by omega) hx hy).drew
            clear hx hy
            go_wp2_with fail
            go_region
            clear c1 c2 f1 f2 g2
            generalize ((w5.setCell ⟨blk, off + (first + r), none⟩ (.int .i64 y)).setCell ⟨blk, off + (first + (2 * r + 1)), none⟩ (.int .i64 x)).drew = w6 at S6 ⊢
            clear bi5 pi5 ei5 bj5 pj5 ej5
            go_wp2_with fail
            go_roundg (hi - (2 * r + 1))
            case measure => omega
            case rel => exact ⟨2 * r + 1, swp dk (first + r) (first + (2 * r + 1)), by go_num, by omega, by omega, by rw [size_swp]; exact hsk, S6, (sift_left_go _ _ _ _ (by omega) (Or.inr HV'.out) HU'.out).symm.trans HO.out⟩
          | false =>
            have HU' : Aside _ := HU
            clear HU
            go_wp2_with fail
            go_quiet (first | (go_at_call 178; refine Calls.quiet_of_same (hless _)))
            have S5 : Aside _ := S2.out.drewN nq
            clear c1 c2 hless
            generalize w2.drewN nq = w5 at S5 ⊢
            clear nq
            clear bi4 pi4 ei4 bj4 pj4 ej4
            go_wp2_with fail
            (try simp only [Exit.inBlock, Exit.then]); refine bodyPost_ret (results_none rfl _ _ _) rfl ?_
            exact ⟨rfl, by rw [← HO.out, sift_left_stop _ _ _ _ (by omega) (Or.inr HV'.out) HU'.out]; exact S5.out⟩
      · have hrtz : decide (2 * (r : Int) + 1 + 1 < (hi : Int)) = false := by refine decide_eq_false ?_; omega
        go_wp2_with fail
        go_quiet (fail)
        have S2 : Aside _ := Sk.out.drewN nq
        generalize wr.drewN nq = w2 at S2 ⊢
        clear nq
        have bi6 : (first : Int) + (r : Int) < (n : Int) := by omega
        have pi6 : (0 : Int) ≤ (first : Int) + (r : Int) := by omega
        have ei6 : ((first : Int) + (r : Int)).toNat = first + r := by omega
        have bj6 : (first : Int) + (2 * (r : Int) + 1) < (n : Int) := by omega
        have pj6 : (0 : Int) ≤ (first : Int) + (2 * (r : Int) + 1) := by omega
        have ej6 : ((first : Int) + (2 * (r : Int) + 1)).toNat = first + (2 * r + 1) := by omega
        obtain ⟨x, hx⟩ : ∃ x, x = dk[first + r]! := ⟨_, rfl⟩
        obtain ⟨y, hy⟩ : ∃ y, y = dk[first + (2 * r + 1)]! := ⟨_, rfl⟩
        have c1 : w2.cell? ⟨blk, off + (first + r), none⟩ = some (.int .i64 x) := by rw [hx]; exact S2.out.cell (by omega)
        have c2 : w2.cell? ⟨blk, off + (first + (2 * r + 1)), none⟩ = some (.int .i64 y) := by rw [hy]; exact S2.out.cell (by omega)
        have hless : ∀ c W, ltInt x y = c → Calls Tryz.prog 178 #[.int .i64 x, .int .i64 y] W fun e w' => e = .returned (.bool c) ∧ w' = W := fun c W hc => by rw [← hc]; exact less_o x y W
        obtain ⟨c, hc⟩ : ∃ c, c = ltInt x y := ⟨_, rfl⟩
        have HU : Aside (ltInt dk[first + r]! dk[first + (2 * r + 1)]! = c) := by show ltInt _ _ = _; rw [← hx, ← hy, hc]
        replace hless := fun W => hless c W hc.symm
        clear hx hy hc
        cases c with
        | true =>
          have HU' : Aside _ := HU
          clear HU
          go_wp2_with fail
          go_quiet (first | (go_at_call 178; refine Calls.quiet_of_same (hless _)))
          have S5 : Aside _ := S2.out.drewN nq
          clear c1 c2 hless
          generalize w2.drewN nq = w5 at S5 ⊢
          clear nq
          clear bi6 pi6 ei6 bj6 pj6 ej6
          have bi7 : (first : Int) + (r : Int) < (n : Int) := by omega
          have pi7 : (0 : Int) ≤ (first : Int) + (r : Int) := by omega
          have ei7 : ((first : Int) + (r : Int)).toNat = first + r := by omega
          have bj7 : (first : Int) + (2 * (r : Int) + 1) < (n : Int) := by omega
          have pj7 : (0 : Int) ≤ (first : Int) + (2 * (r : Int) + 1) := by omega
          have ej7 : ((first : Int) + (2 * (r : Int) + 1)).toNat = first + (2 * r + 1) := by omega
          obtain ⟨x, hx⟩ : ∃ x, x = dk[first + r]! := ⟨_, rfl⟩
          obtain ⟨y, hy⟩ : ∃ y, y = dk[first + (2 * r + 1)]! := ⟨_, rfl⟩
          have c1 : w5.cell? ⟨blk, off + (first + r), none⟩ = some (.int .i64 x) := by rw [hx]; exact S5.out.cell (by omega)
          have c2 : w5.cell? ⟨blk, off + (first + (2 * r + 1)), none⟩ = some (.int .i64 y) := by rw [hy]; exact S5.out.cell (by omega)
          have f1 : w5.frozen? ⟨blk, off + (first + r), none⟩ = false := S5.out.frozen (by omega)
          have f2 : w5.frozen? ⟨blk, off + (first + (2 * r + 1)), none⟩ = false := S5.out.frozen (by omega)
          obtain ⟨u2, g2⟩ := S5.out.second (first + r) (first + (2 * r + 1)) (by omega) (by omega) (.int .i64 y)
          have S6 : Aside _ := (S5.out.swap (by omega) (by omega) hx hy).drew
          clear hx hy
          go_wp2_with fail
          go_region
          clear c1 c2 f1 f2 g2
          generalize ((w5.setCell ⟨blk, off + (first + r), none⟩ (.int .i64 y)).setCell ⟨blk, off + (first + (2 * r + 1)), none⟩ (.int .i64 x)).drew = w6 at S6 ⊢
          clear bi7 pi7 ei7 bj7 pj7 ej7
          go_wp2_with fail
          go_roundg (hi - (2 * r + 1))
          case measure => omega
          case rel => exact ⟨2 * r + 1, swp dk (first + r) (first + (2 * r + 1)), by go_num, by omega, by omega, by rw [size_swp]; exact hsk, S6, (sift_left_go _ _ _ _ (by omega) (Or.inl hrt) HU'.out).symm.trans HO.out⟩
        | false =>
          have HU' : Aside _ := HU
          clear HU
          go_wp2_with fail
          go_quiet (first | (go_at_call 178; refine Calls.quiet_of_same (hless _)))
          have S5 : Aside _ := S2.out.drewN nq
          clear c1 c2 hless
          generalize w2.drewN nq = w5 at S5 ⊢
          clear nq
          clear bi6 pi6 ei6 bj6 pj6 ej6
          go_wp2_with fail
          (try simp only [Exit.inBlock, Exit.then]); refine bodyPost_ret (results_none rfl _ _ _) rfl ?_
          exact ⟨rfl, by rw [← HO.out, sift_left_stop _ _ _ _ (by omega) (Or.inl hrt) HU'.out]; exact S5.out⟩
end Go.Proofs.YtglgmkikegbchaaGreat

/- heapSort: the text over the keys alone. -/
namespace Go.Proofs.YtglgmkikegbchaaGreat
open Go.RowKit Go.Sort

set_option maxHeartbeats 4000000 in
set_option maxRecDepth 1000000 in
theorem heapSort_o (w0 : World) (blk off cap n : Nat) (d : Array Int) (w : World) (S : St1 e64 w0 blk off d w) (hn : d.size = n) (hsz : n < 4611686018427387904) (a b : Nat) (hab : a ≤ b) (hb : b ≤ n) :
    Calls Tryz.prog 156 #[.slice (some ⟨blk, off, none⟩) n cap, .int .i64 a, .int .i64 b] w fun e w' =>
      e = .returned (.tuple #[]) ∧ St1 e64 w0 blk off (heapSort ltInt d a b) w' := by
  obtain ⟨H, hH⟩ : ∃ H, H = b - a := ⟨_, rfl⟩
  have hHz : (b : Int) - (a : Int) = (H : Int) := by omega
  have haH : a + H ≤ n := by omega
  have hh : ((H : Int) - 1).tdiv 2 = (((H - 1) / 2 : Nat) : Int) := by
    rcases Nat.eq_zero_or_pos H with h | h
    · subst h; rfl
    · rw [show (H : Int) - 1 = ((H - 1 : Nat) : Int) by omega]; rfl
  have hEQ : heapSort ltInt d a b = heapPop ltInt a H (heapBuild ltInt H a ((H - 1) / 2 + 1) d) := by rw [heapSort, hH]
  rw [hEQ]
  obtain ⟨h2, hh2⟩ : ∃ h2, h2 = (H - 1) / 2 := ⟨_, rfl⟩
  rw [← hh2] at hh ⊢
  have h2n : h2 ≤ n := by omega
  obtain ⟨D, hD⟩ : ∃ D, D = heapPop ltInt a H (heapBuild ltInt H a (h2 + 1) d) := ⟨_, rfl⟩
  rw [← hD]
  have HD0 : Hid (heapPop ltInt a H (heapBuild ltInt H a (h2 + 1) d) = D) := hD.symm
  clear hEQ hh2 hH hab hb hD
  have S0 : Aside (St1 e64 w0 blk off d w) := S
  clear S
  go_enter Tryz.func156, Tryz.ntmps156
  go_wp2_with fail
  go_loopg [9] (h2 + 1) (fun g vi wr => ∃ (K : Int) (k : Nat) (dk : Array Int), vi = .int .i64 K ∧ K + 1 = (k : Int) ∧ k ≤ h2 + 1 ∧ k ≤ g ∧ dk.size = n ∧ Aside (St1 e64 w0 blk off dk wr) ∧ Hid (heapBuild ltInt H a k dk = heapBuild ltInt H a (h2 + 1) d))
  case atStart => exact ⟨(h2 : Int), h2 + 1, d, rfl, by omega, Nat.le_refl _, Nat.le_refl _, hn, S0, rfl⟩
  case round =>
    obtain ⟨K, k, dk, rfl, hK, hk, hg, hsk, Sk, HO⟩ := hrel
    by_cases hK0 : 0 ≤ K
    · obtain ⟨kp, rfl⟩ := Int.eq_ofNat_of_zero_le hK0
      obtain rfl : k = kp + 1 := by omega
      clear hK
      have hc1 := siftDown_o w0 blk off cap n dk wr Sk.out hsk hsz kp H a (by omega) haH
      go_wp2_with fail
      refine hc1.mono ?_
      rintro e w2 ⟨rfl, S2q⟩
      have S2 : Aside _ := S2q
      clear hc1 S2q
      go_wp2_with fail
      go_roundg kp
      case measure => omega
      case rel => exact ⟨(kp : Int) - 1, kp, siftDown ltInt H a kp dk, by go_num, by omega, by omega, by omega, by rw [size_siftDown _ _ _ _ (by omega)]; exact hsk, S2, HO⟩
    · obtain rfl : k = 0 := by omega
      have HD : Hid (heapPop ltInt a H dk = D) := by show _ = _; rw [← HD0.out, ← HO.out]; rfl
      clear HO hh hK hk h2n HD0
      go_wp2_with fail
      go_loopg [10] H (fun g vi wr => ∃ (K : Int) (k : Nat) (dk : Array Int), vi = .int .i64 K ∧ K + 1 = (k : Int) ∧ k ≤ H ∧ k ≤ g ∧ dk.size = n ∧ Aside (St1 e64 w0 blk off dk wr) ∧ Hid (heapPop ltInt a k dk = D))
      case atStart => exact ⟨(H : Int) - 1, H, dk, by go_num, by omega, Nat.le_refl _, Nat.le_refl _, hsk, Sk, HD⟩
      case round =>
        obtain ⟨K, k, dk, rfl, hK, hk, hg, hsk, Sk, HO⟩ := hrel
        by_cases hK0 : 0 ≤ K
        · obtain ⟨kp, rfl⟩ := Int.eq_ofNat_of_zero_le hK0
          obtain rfl : k = kp + 1 := by omega
          clear hK
          have bi2 : (a : Int) < (n : Int) := by omega
          have bj2 : (a : Int) + (kp : Int) < (n : Int) := by omega
          have pj2 : (0 : Int) ≤ (a : Int) + (kp : Int) := by omega
          have ej2 : ((a : Int) + (kp : Int)).toNat = a + kp := by omega
          obtain ⟨x, hx⟩ : ∃ x, x = dk[a]! := ⟨_, rfl⟩
          obtain ⟨y, hy⟩ : ∃ y, y = dk[a + kp]! := ⟨_, rfl⟩
          have c1 : wr.cell? ⟨blk, off + (a), none⟩ = some (.int .i64 x) := by rw [hx]; exact Sk.out.cell (by omega)
          have c2 : wr.cell? ⟨blk, off + (a + kp), none⟩ = some (.int .i64 y) := by rw [hy]; exact Sk.out.cell (by omega)
          have f1 : wr.frozen? ⟨blk, off + (a), none⟩ = false := Sk.out.frozen (by omega)
          have f2 : wr.frozen? ⟨blk, off + (a + kp), none⟩ = false := Sk.out.frozen (by omega)
          obtain ⟨u2, g2⟩ := Sk.out.second (a) (a + kp) (by omega) (by omega) (.int .i64 y)
          have S2 : Aside _ := (Sk.out.swap (by omega) (by omega) hx hy).drew
          clear hx hy
          go_wp2_with fail
          go_region
          clear c1 c2 f1 f2 g2
          generalize ((wr.setCell ⟨blk, off + (a), none⟩ (.int .i64 y)).setCell ⟨blk, off + (a + kp), none⟩ (.int .i64 x)).drew = w2 at S2 ⊢
          clear bi2 bj2 pj2 ej2
          have hc3 := siftDown_o w0 blk off cap n (swp dk a (a + kp)) w2 S2.out (by rw [size_swp]; exact hsk) hsz 0 kp a (by omega) (by omega)
          go_wp2_with fail
          refine hc3.mono ?_
          rintro e w3 ⟨rfl, S3q⟩
          have S3 : Aside _ := S3q
          clear hc3 S3q
          go_wp2_with fail
          go_roundg kp
          case measure => omega
          case rel => exact ⟨(kp : Int) - 1, kp, siftDown ltInt kp a 0 (swp dk a (a + kp)), by go_num, by omega, by omega, by omega, by rw [size_siftDown _ _ _ _ (by rw [size_swp]; omega), size_swp]; exact hsk, S3, HO⟩
        · obtain rfl : k = 0 := by omega
          have hB : dk = D := HO.out
          subst hB
          go_wp2_with fail
          go_end0
          exact ⟨rfl, Sk.out⟩
end Go.Proofs.YtglgmkikegbchaaGreat

/- reverseRange: the text by a function that compares, over elements of two cells. -/
namespace Go.Proofs.YtglgmkikegbchaaGreat
open Go.RowKit Go.Sort

theorem revGo_c {α : Type} [Inhabited α] (i j : Nat) (d : Array α) (h : i < j + 1) : reverseLoop i (j + 1) d = reverseLoop (i + 1) j (swp d i (j + 1)) := by
  rw [reverseLoop, if_pos h]
  rfl
theorem revStop_c {α : Type} [Inhabited α] (i j : Nat) (d : Array α) (h : ¬ i < j) : reverseLoop i j d = d := by
  rw [reverseLoop, if_neg h]
set_option maxHeartbeats 4000000 in
set_option maxRecDepth 1000000 in
theorem reverseRange_c (O : Value) (cf : It → It → Int) (hC : CmpC O cf) (w0 : World) (blk off cap n : Nat) (d : Array It) (w : World) (S : St2 w0 blk off d w) (hn : d.size = n) (hsz : n < 4611686018427387904) (a b : Nat) (hab : a ≤ b) (hb : b ≤ n) :
    Calls Tryz.prog 135 #[.slice (some ⟨blk, off, none⟩) n cap, .int .i64 a, .int .i64 b, .func (.func 43) #[O] #[]] w fun e w' =>
      e = .returned (.tuple #[]) ∧ St2 w0 blk off (reverseRange d a b) w' := by
  have hRR : Hid (reverseLoop a (b - 1) d = reverseRange d a b) := rfl
  generalize reverseRange d a b = R at hRR ⊢
  by_cases hb0 : b = 0
  · obtain rfl : a = 0 := by omega
    subst hb0
    have hR : R = d := by rw [← hRR.out, revStop_c _ _ _ (by omega)]
    rw [hR]
    clear hRR hR
    have mixed : Tryz.prog.follows .mixedOrders = true := by kernel_rfl
    have HC : Aside (CmpC O cf) := hC
    have S0 : Aside (St2 w0 blk off d w) := S
    clear S
    go_enter Tryz.func135, Tryz.ntmps135
    have w0 : IntKind.i64.wrap (0 - 1) = -1 := by decide
    go_wp2_with fail
    refine wp_loop_rounds 1 ?_
    rw [rounds_succ]
    go_wp2_with fail
    go_end0
    exact ⟨rfl, S0.out⟩
  · obtain ⟨bp, rfl⟩ : ∃ bp, b = bp + 1 := ⟨b - 1, by omega⟩
    rw [Nat.add_sub_cancel] at hRR
    have mixed : Tryz.prog.follows .mixedOrders = true := by kernel_rfl
    have HC : Aside (CmpC O cf) := hC
    have S0 : Aside (St2 w0 blk off d w) := S
    clear S
    go_enter Tryz.func135, Tryz.ntmps135
    go_wp2
    go_loopg [8, 9] bp (fun g vi vj wr => ∃ (i j : Nat) (dk : Array It), vi = .int .i64 i ∧ vj = .int .i64 j ∧ i ≤ j + 1 ∧ j < n ∧ j - i ≤ g ∧ dk.size = n ∧ Aside (St2 w0 blk off dk wr) ∧ Hid (reverseLoop i j dk = R))
    case atStart => exact ⟨a, bp, d, rfl, by go_num, by omega, by omega, by omega, hn, S0, hRR⟩
    case round =>
      obtain ⟨i, j, dk, rfl, rfl, hij, hj, hg, hsk, Sk, HO⟩ := hrel
      by_cases hlt : i < j
      · obtain ⟨jp, rfl⟩ : ∃ jp, j = jp + 1 := ⟨j - 1, by omega⟩
        have hltz : (i : Int) < (jp : Int) + 1 := by omega
        have bi1 : (i : Int) < (n : Int) := by omega
        have ri1 : IntKind.i64.wrap ((i : Int)) = (i : Int) := by rw [IntKind.wrap_i64]; omega
        have bj1 : (jp : Int) + 1 < (n : Int) := by omega
        have rj1 : IntKind.i64.wrap ((jp : Int) + 1) = (jp : Int) + 1 := by rw [IntKind.wrap_i64]; omega
        have pj1 : (0 : Int) ≤ (jp : Int) + 1 := by omega
        have ej1 : ((jp : Int) + 1).toNat = jp + 1 := by omega
        obtain ⟨⟨x1, x2⟩, hx⟩ : ∃ x : It, x = dk[i]! := ⟨_, rfl⟩
        obtain ⟨⟨y1, y2⟩, hy⟩ : ∃ y : It, y = dk[jp + 1]! := ⟨_, rfl⟩
        obtain ⟨c11, c12, f11, f12⟩ := Sk.out.holds (i) (by omega)
        obtain ⟨c21, c22, f21, f22⟩ := Sk.out.holds (jp + 1) (by omega)
        rw [← hx] at c11 c12
        rw [← hy] at c21 c22
        dsimp only at c11 c12 c21 c22
        obtain ⟨u3, g3⟩ := Sk.out.third (i) (jp + 1) (by omega) (by omega) (.int .i64 y1) (.int .i64 y2)
        obtain ⟨u4, g4⟩ := Sk.out.fourth (i) (jp + 1) (by omega) (by omega) (.int .i64 y1) (.int .i64 y2) (.int .i64 x1)
        have S2 : Aside _ := (Sk.out.swap (by omega) (by omega) hx hy).drew
        dsimp only at S2
        clear hx hy
        go_wp2_with fail
        go_region
        clear c11 c12 c21 c22 f11 f12 f21 f22 g3 g4
        generalize ((((wr.setCell ⟨blk, off + (i) * 2, none⟩ (.int .i64 y1)).setCell ⟨blk, off + (i) * 2 + 1, none⟩ (.int .i64 y2)).setCell ⟨blk, off + (jp + 1) * 2, none⟩ (.int .i64 x1)).setCell ⟨blk, off + (jp + 1) * 2 + 1, none⟩ (.int .i64 x2)).drew = w2 at S2 ⊢
        clear bi1 ri1 bj1 rj1 pj1 ej1
        go_wp2_with fail
        go_roundg (jp - (i + 1))
        case measure => omega
        case rel => exact ⟨i + 1, jp, swp dk i (jp + 1), by go_num, by go_num, by omega, by omega, by omega, by rw [size_swp]; exact hsk, S2, (revGo_c _ _ _ hlt).symm.trans HO.out⟩
      · have hltz : ¬ (i : Int) < (j : Int) := by omega
        go_wp2
        go_end0
        exact ⟨rfl, by rw [← HO.out, revStop_c _ _ _ hlt]; exact Sk.out⟩
end Go.Proofs.YtglgmkikegbchaaGreat

/- reverseRange: the text over an Interface. -/
namespace Go.Proofs.YtglgmkikegbchaaGreat
open Go.RowKit Go.Sort

theorem revGo_f {α : Type} [Inhabited α] (i j : Nat) (d : Array α) (h : i < j + 1) : reverseLoop i (j + 1) d = reverseLoop (i + 1) j (swp d i (j + 1)) := by
  rw [reverseLoop, if_pos h]
  rfl
theorem revStop_f {α : Type} [Inhabited α] (i j : Nat) (d : Array α) (h : ¬ i < j) : reverseLoop i j d = d := by
  rw [reverseLoop, if_neg h]
set_option maxHeartbeats 4000000 in
set_option maxRecDepth 1000000 in
theorem reverseRange_f (T : TypeId) (rv : Value) (lt : It → It → Bool) (gl gs : Nat) (rl rs : Value) (w0 : World) (blk off n : Nat) (F : FaceOk T rv lt w0 blk off n gl gs rl rs) (d : Array It) (w : World) (S : St2 w0 blk off d w) (hn : d.size = n) (hsz : n < 4611686018427387904) (a b : Nat) (hab : a ≤ b) (hb : b ≤ n) :
    Calls Tryz.prog 150 #[.iface T rv, .int .i64 a, .int .i64 b] w fun e w' =>
      e = .returned (.tuple #[]) ∧ St2 w0 blk off (reverseRange d a b) w' := by
  have hRR : Hid (reverseLoop a (b - 1) d = reverseRange d a b) := rfl
  generalize reverseRange d a b = R at hRR ⊢
  by_cases hb0 : b = 0
  · obtain rfl : a = 0 := by omega
    subst hb0
    have hR : R = d := by rw [← hRR.out, revStop_f _ _ _ (by omega)]
    rw [hR]
    clear hRR hR
    have eL := F.eL
    have eS := F.eS
    have S0 : Aside (St2 w0 blk off d w) := S
    clear S
    go_enter Tryz.func150, Tryz.ntmps150
    have w0 : IntKind.i64.wrap (0 - 1) = -1 := by decide
    go_wp2_with fail
    refine wp_loop_rounds 1 ?_
    rw [rounds_succ]
    go_wp2_with fail
    go_end0
    exact ⟨rfl, S0.out⟩
  · obtain ⟨bp, rfl⟩ : ∃ bp, b = bp + 1 := ⟨b - 1, by omega⟩
    rw [Nat.add_sub_cancel] at hRR
    have eL := F.eL
    have eS := F.eS
    have S0 : Aside (St2 w0 blk off d w) := S
    clear S
    go_enter Tryz.func150, Tryz.ntmps150
    go_wp2
    go_loopg [6, 7] bp (fun g vi vj wr => ∃ (i j : Nat) (dk : Array It), vi = .int .i64 i ∧ vj = .int .i64 j ∧ i ≤ j + 1 ∧ j < n ∧ j - i ≤ g ∧ dk.size = n ∧ Aside (St2 w0 blk off dk wr) ∧ Hid (reverseLoop i j dk = R))
    case atStart => exact ⟨a, bp, d, rfl, by go_num, by omega, by omega, by omega, hn, S0, hRR⟩
    case round =>
      obtain ⟨i, j, dk, rfl, rfl, hij, hj, hg, hsk, Sk, HO⟩ := hrel
      by_cases hlt : i < j
      · obtain ⟨jp, rfl⟩ : ∃ jp, j = jp + 1 := ⟨j - 1, by omega⟩
        have hltz : (i : Int) < (jp : Int) + 1 := by omega
        have mL := F.methL _ wr Sk.out
        have mS := F.methS _ wr Sk.out
        have hs := F.swap dk wr (i) (jp + 1) (by omega) Sk.out (by omega) (by omega)
        rw [show ((jp + 1 : Nat) : Int) = (jp : Int) + 1 by omega] at hs
        go_wp2_with fail
        refine hs.mono ?_
        rintro e w2 ⟨rfl, S2q, hgr⟩
        have S2 : Aside _ := S2q
        clear mL mS hs hgr S2q
        have mL := F.methL _ w2 S2.out
        have mS := F.methS _ w2 S2.out
        go_wp2_with fail
        go_roundg (jp - (i + 1))
        case measure => omega
        case rel => exact ⟨i + 1, jp, swp dk i (jp + 1), by go_num, by go_num, by omega, by omega, by omega, by rw [size_swp]; exact hsk, S2, (revGo_f _ _ _ hlt).symm.trans HO.out⟩
      · have hltz : ¬ (i : Int) < (j : Int) := by omega
        go_wp2
        go_end0
        exact ⟨rfl, by rw [← HO.out, revStop_f _ _ _ hlt]; exact Sk.out⟩
end Go.Proofs.YtglgmkikegbchaaGreat

/- reverseRange: the text over the keys alone. -/
namespace Go.Proofs.YtglgmkikegbchaaGreat
open Go.RowKit Go.Sort

theorem revGo_o {α : Type} [Inhabited α] (i j : Nat) (d : Array α) (h : i < j + 1) : reverseLoop i (j + 1) d = reverseLoop (i + 1) j (swp d i (j + 1)) := by
  rw [reverseLoop, if_pos h]
  rfl
theorem revStop_o {α : Type} [Inhabited α] (i j : Nat) (d : Array α) (h : ¬ i < j) : reverseLoop i j d = d := by
  rw [reverseLoop, if_neg h]
set_option maxHeartbeats 4000000 in
set_option maxRecDepth 1000000 in
theorem reverseRange_o (w0 : World) (blk off cap n : Nat) (d : Array Int) (w : World) (S : St1 e64 w0 blk off d w) (hn : d.size = n) (hsz : n < 4611686018427387904) (a b : Nat) (hab : a ≤ b) (hb : b ≤ n) :
    Calls Tryz.prog 166 #[.slice (some ⟨blk, off, none⟩) n cap, .int .i64 a, .int .i64 b] w fun e w' =>
      e = .returned (.tuple #[]) ∧ St1 e64 w0 blk off (reverseRange d a b) w' := by
  have hRR : Hid (reverseLoop a (b - 1) d = reverseRange d a b) := rfl
  generalize reverseRange d a b = R at hRR ⊢
  by_cases hb0 : b = 0
  · obtain rfl : a = 0 := by omega
    subst hb0
    have hR : R = d := by rw [← hRR.out, revStop_o _ _ _ (by omega)]
    rw [hR]
    clear hRR hR
    have S0 : Aside (St1 e64 w0 blk off d w) := S
    clear S
    go_enter Tryz.func166, Tryz.ntmps166
    have w0 : IntKind.i64.wrap (0 - 1) = -1 := by decide
    go_wp2_with fail
    refine wp_loop_rounds 1 ?_
    rw [rounds_succ]
    go_wp2_with fail
    go_end0
    exact ⟨rfl, S0.out⟩
  · obtain ⟨bp, rfl⟩ : ∃ bp, b = bp + 1 := ⟨b - 1, by omega⟩
    rw [Nat.add_sub_cancel] at hRR
    have S0 : Aside (St1 e64 w0 blk off d w) := S
    clear S
    go_enter Tryz.func166, Tryz.ntmps166
    go_wp2
    go_loopg [6, 7] bp (fun g vi vj wr => ∃ (i j : Nat) (dk : Array Int), vi = .int .i64 i ∧ vj = .int .i64 j ∧ i ≤ j + 1 ∧ j < n ∧ j - i ≤ g ∧ dk.size = n ∧ Aside (St1 e64 w0 blk off dk wr) ∧ Hid (reverseLoop i j dk = R))
    case atStart => exact ⟨a, bp, d, rfl, by go_num, by omega, by omega, by omega, hn, S0, hRR⟩
    case round =>
      obtain ⟨i, j, dk, rfl, rfl, hij, hj, hg, hsk, Sk, HO⟩ := hrel
      by_cases hlt : i < j
      · obtain ⟨jp, rfl⟩ : ∃ jp, j = jp + 1 := ⟨j - 1, by omega⟩
        have hltz : (i : Int) < (jp : Int) + 1 := by omega
        have bi1 : (i : Int) < (n : Int) := by omega
        have bj1 : (jp : Int) + 1 < (n : Int) := by omega
        have pj1 : (0 : Int) ≤ (jp : Int) + 1 := by omega
        have ej1 : ((jp : Int) + 1).toNat = jp + 1 := by omega
        obtain ⟨x, hx⟩ : ∃ x, x = dk[i]! := ⟨_, rfl⟩
        obtain ⟨y, hy⟩ : ∃ y, y = dk[jp + 1]! := ⟨_, rfl⟩
        have c1 : wr.cell? ⟨blk, off + (i), none⟩ = some (.int .i64 x) := by rw [hx]; exact Sk.out.cell (by omega)
        have c2 : wr.cell? ⟨blk, off + (jp + 1), none⟩ = some (.int .i64 y) := by rw [hy]; exact Sk.out.cell (by omega)
        have f1 : wr.frozen? ⟨blk, off + (i), none⟩ = false := Sk.out.frozen (by omega)
        have f2 : wr.frozen? ⟨blk, off + (jp + 1), none⟩ = false := Sk.out.frozen (by omega)
        obtain ⟨u2, g2⟩ := Sk.out.second (i) (jp + 1) (by omega) (by omega) (.int .i64 y)
        have S2 : Aside _ := (Sk.out.swap (by omega) (by omega) hx hy).drew
        clear hx hy
        go_wp2_with fail
        go_region
        clear c1 c2 f1 f2 g2
        generalize ((wr.setCell ⟨blk, off + (i), none⟩ (.int .i64 y)).setCell ⟨blk, off + (jp + 1), none⟩ (.int .i64 x)).drew = w2 at S2 ⊢
        clear bi1 bj1 pj1 ej1
        go_wp2_with fail
        go_roundg (jp - (i + 1))
        case measure => omega
        case rel => exact ⟨i + 1, jp, swp dk i (jp + 1), by go_num, by go_num, by omega, by omega, by omega, by rw [size_swp]; exact hsk, S2, (revGo_o _ _ _ hlt).symm.trans HO.out⟩
      · have hltz : ¬ (i : Int) < (j : Int) := by omega
        go_wp2
        go_end0
        exact ⟨rfl, by rw [← HO.out, revStop_o _ _ _ hlt]; exact Sk.out⟩
end Go.Proofs.YtglgmkikegbchaaGreat
