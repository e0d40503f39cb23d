/- siftDown: the text by a function that compares, over elements of two cells. -/
import Derived.Test.YtglgmkikegbchaaGreatWc0
import Derived.Test.YtglgmkikegbchaaGreatPb
namespace Go.Proofs.YtglgmkikegbchaaGreat
open Go.RowKit Go.Sort

set_option maxHeartbeats 4000000 in
set_option maxRecDepth 1000000 in
theorem siftDown_c (O : Value) (cf : It → It → Int) (hC : CmpC O cf) (w0 : World) (blk off cap n : Nat) (d : Array It) (w : World) (S : St2 w0 blk off d w) (hn : d.size = n) (hsz : n < 4611686018427387904) (lo hi first : Nat) (hlo : lo ≤ n) (hfh : first + hi ≤ n) :
    Calls Tryz.prog 125 #[.slice (some ⟨blk, off, none⟩) n cap, .int .i64 lo, .int .i64 hi, .int .i64 first, .func (.func 43) #[O] #[]] w fun e w' =>
      e = .returned (.tuple #[]) ∧ St2 w0 blk off (siftDown (ltC cf) hi first lo d) w' := by
  have mixed : Tryz.prog.follows .mixedOrders = true := by kernel_rfl
  have HC : Aside (CmpC O cf) := hC
  have S0 : Aside (St2 w0 blk off d w) := S
  clear S
  go_enter Tryz.func125, Tryz.ntmps125
  go_wp2
  go_loopg [10] (hi - lo) (fun g vi wr => ∃ (r : Nat) (dk : Array It), vi = .int .i64 r ∧ r ≤ n ∧ hi - r ≤ g ∧ dk.size = n ∧ Aside (St2 w0 blk off dk wr) ∧ Hid (siftDown (ltC cf) hi first r dk = siftDown (ltC cf) hi first lo d))
  case atStart => exact ⟨lo, d, rfl, hlo, Nat.le_refl _, hn, S0, rfl⟩
  case round =>
    obtain ⟨r, dk, rfl, hrn, hg, hsk, Sk, HO⟩ := hrel
    by_cases hend : hi ≤ 2 * r + 1
    · have hendz : (hi : Int) ≤ 2 * (r : Int) + 1 := by omega
      go_wp2_with fail
      go_end0
      exact ⟨rfl, by rw [← HO.out, sift_end _ _ _ _ hend]; exact Sk.out⟩
    · have hendz : ¬ (hi : Int) ≤ 2 * (r : Int) + 1 := by omega
      by_cases hrt : 2 * r + 2 < hi
      · have hrtz : 2 * (r : Int) + 1 + 1 < (hi : Int) := by omega
        have wch : IntKind.i64.wrap (2 * (r : Int) + 1 + 1) = 2 * (r : Int) + 1 + 1 := by rw [IntKind.wrap_i64]; omega
        have bi1 : (first : Int) + (2 * (r : Int) + 1) < (n : Int) := by omega
        have ri1 : IntKind.i64.wrap ((first : Int) + (2 * (r : Int) + 1)) = (first : Int) + (2 * (r : Int) + 1) := by rw [IntKind.wrap_i64]; omega
        have pi1 : (0 : Int) ≤ (first : Int) + (2 * (r : Int) + 1) := by omega
        have ei1 : ((first : Int) + (2 * (r : Int) + 1)).toNat = first + (2 * r + 1) := by omega
        have bj1 : (first : Int) + (2 * (r : Int) + 1) + 1 < (n : Int) := by omega
        have rj1 : IntKind.i64.wrap ((first : Int) + (2 * (r : Int) + 1) + 1) = (first : Int) + (2 * (r : Int) + 1) + 1 := by rw [IntKind.wrap_i64]; omega
        have pj1 : (0 : Int) ≤ (first : Int) + (2 * (r : Int) + 1) + 1 := by omega
        have ej1 : ((first : Int) + (2 * (r : Int) + 1) + 1).toNat = first + (2 * r + 1) + 1 := by omega
        obtain ⟨⟨x1, x2⟩, hx⟩ : ∃ x : It, x = dk[first + (2 * r + 1)]! := ⟨_, rfl⟩
        obtain ⟨⟨y1, y2⟩, hy⟩ : ∃ y : It, y = dk[first + (2 * r + 1) + 1]! := ⟨_, rfl⟩
        have c11 := fun n' os => (Sk.out.cells (i := first + (2 * r + 1)) (by omega) hx n' os).1
        have c12 := fun n' os => (Sk.out.cells (i := first + (2 * r + 1)) (by omega) hx n' os).2
        have c21 := fun n' os => (Sk.out.cells (i := first + (2 * r + 1) + 1) (by omega) hy n' os).1
        have c22 := fun n' os => (Sk.out.cells (i := first + (2 * r + 1) + 1) (by omega) hy n' os).2
        have hcc := CmpC.out HC (x1, x2) (y1, y2)
        dsimp only [vIt] at c11 c12 c21 c22 hcc
        obtain ⟨c, hc⟩ : ∃ c, c = cf (x1, x2) (y1, y2) := ⟨_, rfl⟩
        rw [← hc] at hcc
        have HV : Aside (ltC cf dk[first + (2 * r + 1)]! dk[first + (2 * r + 1) + 1]! = decide (c < 0)) := by show ltC cf _ _ = _; rw [← hx, ← hy, hc]; rfl
        clear hx hy hc
        by_cases hcl : c < 0
        · have hcd : decide (c < 0) = true := decide_eq_true hcl
          replace HV := HV.out.trans hcd
          have HV' : Aside _ := HV
          clear HV
          go_wp2_with fail
          go_quiet_grown (first | (go_at_call 43; refine Calls.grown_of (hcc _)))
          have S2 : Aside _ := Sk.out.grow nq osq
          clear c11 c12 c21 c22 hcc
          generalize grow (wr.drewN nq) osq = w2 at S2 ⊢
          clear nq osq
          clear bi1 ri1 pi1 ei1 bj1 rj1 pj1 ej1
          have bi2 : (first : Int) + (r : Int) < (n : Int) := by omega
          have ri2 : IntKind.i64.wrap ((first : Int) + (r : Int)) = (first : Int) + (r : Int) := by rw [IntKind.wrap_i64]; omega
          have pi2 : (0 : Int) ≤ (first : Int) + (r : Int) := by omega
          have ei2 : ((first : Int) + (r : Int)).toNat = first + r := by omega
          have bj2 : (first : Int) + (2 * (r : Int) + 1 + 1) < (n : Int) := by omega
          have rj2 : IntKind.i64.wrap ((first : Int) + (2 * (r : Int) + 1 + 1)) = (first : Int) + (2 * (r : Int) + 1 + 1) := by rw [IntKind.wrap_i64]; omega
          have pj2 : (0 : Int) ≤ (first : Int) + (2 * (r : Int) + 1 + 1) := by omega
          have ej2 : ((first : Int) + (2 * (r : Int) + 1 + 1)).toNat = first + (2 * r + 2) := by omega
          obtain ⟨⟨x1, x2⟩, hx⟩ : ∃ x : It, x = dk[first + r]! := ⟨_, rfl⟩
          obtain ⟨⟨y1, y2⟩, hy⟩ : ∃ y : It, y = dk[first + (2 * r + 2)]! := ⟨_, rfl⟩
          have c11 := fun n' os => (S2.out.cells (i := first + r) (by omega) hx n' os).1
          have c12 := fun n' os => (S2.out.cells (i := first + r) (by omega) hx n' os).2
          have c21 := fun n' os => (S2.out.cells (i := first + (2 * r + 2)) (by omega) hy n' os).1
          have c22 := fun n' os => (S2.out.cells (i := first + (2 * r + 2)) (by omega) hy n' os).2
          have hcc := CmpC.out HC (x1, x2) (y1, y2)
          dsimp only [vIt] at c11 c12 c21 c22 hcc
          obtain ⟨c, hc⟩ : ∃ c, c = cf (x1, x2) (y1, y2) := ⟨_, rfl⟩
          rw [← hc] at hcc
          have HU : Aside (ltC cf dk[first + r]! dk[first + (2 * r + 2)]! = decide (c < 0)) := by show ltC cf _ _ = _; rw [← hx, ← hy, hc]; rfl
          clear hx hy hc
          by_cases hcl : c < 0
          · have hcd : decide (c < 0) = true := decide_eq_true hcl
            replace HU := HU.out.trans hcd
            have HU' : Aside _ := HU
            clear HU
            go_wp2_with fail
            go_quiet_grown (first | (go_at_call 43; refine Calls.grown_of (hcc _)))
            have S5 : Aside _ := S2.out.grow nq osq
            clear c11 c12 c21 c22 hcc
            generalize grow (w2.drewN nq) osq = w5 at S5 ⊢
            clear nq osq
            clear bi2 ri2 pi2 ei2 bj2 rj2 pj2 ej2
            have bi3 : (first : Int) + (r : Int) < (n : Int) := by omega
            have ri3 : IntKind.i64.wrap ((first : Int) + (r : Int)) = (first : Int) + (r : Int) := by rw [IntKind.wrap_i64]; omega
            have pi3 : (0 : Int) ≤ (first : Int) + (r : Int) := by omega
            have ei3 : ((first : Int) + (r : Int)).toNat = first + r := by omega
            have bj3 : (first : Int) + (2 * (r : Int) + 1 + 1) < (n : Int) := by omega
            have rj3 : IntKind.i64.wrap ((first : Int) + (2 * (r : Int) + 1 + 1)) = (first : Int) + (2 * (r : Int) + 1 + 1) := by rw [IntKind.wrap_i64]; omega
            have pj3 : (0 : Int) ≤ (first : Int) + (2 * (r : Int) + 1 + 1) := by omega
            have ej3 : ((first : Int) + (2 * (r : Int) + 1 + 1)).toNat = first + (2 * r + 2) := by omega
            obtain ⟨⟨x1, x2⟩, hx⟩ : ∃ x : It, x = dk[first + r]! := ⟨_, rfl⟩
            obtain ⟨⟨y1, y2⟩, hy⟩ : ∃ y : It, y = dk[first + (2 * r + 2)]! := ⟨_, rfl⟩
            obtain ⟨c11, c12, f11, f12⟩ := S5.out.holds (first + r) (by omega)
            obtain ⟨c21, c22, f21, f22⟩ := S5.out.holds (first + (2 * r + 2)) (by omega)
            rw [← hx] at c11 c12
            rw [← hy] at c21 c22
            dsimp only at c11 c12 c21 c22
            obtain ⟨u3, g3⟩ := S5.out.third (first + r) (first + (2 * r + 2)) (by omega) (by omega) (.int .i64 y1) (.int .i64 y2)
            obtain ⟨u4, g4⟩ := S5.out.fourth (first + r) (first + (2 * r + 2)) (by omega) (by omega) (.int .i64 y1) (.int .i64 y2) (.int .i64 x1)
            have S6 : Aside _ := (S5.out.swap (by omega) (by omega) hx hy).drew
            dsimp only at S6
            clear hx hy
            go_wp2_with fail
            go_region
            clear c11 c12 c21 c22 f11 f12 f21 f22 g3 g4
            generalize ((((w5.setCell ⟨blk, off + (first + r) * 2, none⟩ (.int .i64 y1)).setCell ⟨blk, off + (first + r) * 2 + 1, none⟩ (.int .i64 y2)).setCell ⟨blk, off + (first + (2 * r + 2)) * 2, none⟩ (.int .i64 x1)).setCell ⟨blk, off + (first + (2 * r + 2)) * 2 + 1, none⟩ (.int .i64 x2)).drew = w6 at S6 ⊢
            clear bi3 ri3 pi3 ei3 bj3 rj3 pj3 ej3
            go_wp2_with fail
            go_roundg (hi - (2 * r + 2))
            case measure => omega
            case rel => exact ⟨2 * r + 2, swp dk (first + r) (first + (2 * r + 2)), by go_num, by omega, by omega, by rw [size_swp]; exact hsk, S6, (sift_right_go _ _ _ _ hrt HV'.out HU'.out).symm.trans HO.out⟩
          · have hcd : decide (c < 0) = false := decide_eq_false hcl
            replace HU := HU.out.trans hcd
            have HU' : Aside _ := HU
            clear HU
            go_wp2_with fail
            go_quiet_grown (first | (go_at_call 43; refine Calls.grown_of (hcc _)))
            have S5 : Aside _ := S2.out.grow nq osq
            clear c11 c12 c21 c22 hcc
            generalize grow (w2.drewN nq) osq = w5 at S5 ⊢
            clear nq osq
            clear bi2 ri2 pi2 ei2 bj2 rj2 pj2 ej2
            go_wp2_with fail
            (try simp only [Exit.inBlock, Exit.then]); refine bodyPost_ret (results_none rfl _ _ _) rfl ?_
            exact ⟨rfl, by rw [← HO.out, sift_right_stop _ _ _ _ hrt HV'.out HU'.out]; exact S5.out⟩
        · have hcd : decide (c < 0) = false := decide_eq_false hcl
          replace HV := HV.out.trans hcd
          have HV' : Aside _ := HV
          clear HV
          go_wp2_with fail
          go_quiet_grown (first | (go_at_call 43; refine Calls.grown_of (hcc _)))
          have S2 : Aside _ := Sk.out.grow nq osq
          clear c11 c12 c21 c22 hcc
          generalize grow (wr.drewN nq) osq = w2 at S2 ⊢
          clear nq osq
          clear bi1 ri1 pi1 ei1 bj1 rj1 pj1 ej1
          have bi4 : (first : Int) + (r : Int) < (n : Int) := by omega
          have ri4 : IntKind.i64.wrap ((first : Int) + (r : Int)) = (first : Int) + (r : Int) := by rw [IntKind.wrap_i64]; omega
          have pi4 : (0 : Int) ≤ (first : Int) + (r : Int) := by omega
          have ei4 : ((first : Int) + (r : Int)).toNat = first + r := by omega
          have bj4 : (first : Int) + (2 * (r : Int) + 1) < (n : Int) := by omega
          have rj4 : IntKind.i64.wrap ((first : Int) + (2 * (r : Int) + 1)) = (first : Int) + (2 * (r : Int) + 1) := by rw [IntKind.wrap_i64]; omega
          have pj4 : (0 : Int) ≤ (first : Int) + (2 * (r : Int) + 1) := by omega
          have ej4 : ((first : Int) + (2 * (r : Int) + 1)).toNat = first + (2 * r + 1) := by omega
          obtain ⟨⟨x1, x2⟩, hx⟩ : ∃ x : It, x = dk[first + r]! := ⟨_, rfl⟩
          obtain ⟨⟨y1, y2⟩, hy⟩ : ∃ y : It, y = dk[first + (2 * r + 1)]! := ⟨_, rfl⟩
          have c11 := fun n' os => (S2.out.cells (i := first + r) (by omega) hx n' os).1
          have c12 := fun n' os => (S2.out.cells (i := first + r) (by omega) hx n' os).2
          have c21 := fun n' os => (S2.out.cells (i := first + (2 * r + 1)) (by omega) hy n' os).1
          have c22 := fun n' os => (S2.out.cells (i := first + (2 * r + 1)) (by omega) hy n' os).2
          have hcc := CmpC.out HC (x1, x2) (y1, y2)
          dsimp only [vIt] at c11 c12 c21 c22 hcc
          obtain ⟨c, hc⟩ : ∃ c, c = cf (x1, x2) (y1, y2) := ⟨_, rfl⟩
          rw [← hc] at hcc
          have HU : Aside (ltC cf dk[first + r]! dk[first + (2 * r + 1)]! = decide (c < 0)) := by show ltC cf _ _ = _; rw [← hx, ← hy, hc]; rfl
          clear hx hy hc
          by_cases hcl : c < 0
          · have hcd : decide (c < 0) = true := decide_eq_true hcl
            replace HU := HU.out.trans hcd
            have HU' : Aside _ := HU
            clear HU
            go_wp2_with fail
            go_quiet_grown (first | (go_at_call 43; refine Calls.grown_of (hcc _)))
            have S5 : Aside _ := S2.out.grow nq osq
            clear c11 c12 c21 c22 hcc
            generalize grow (w2.drewN nq) osq = w5 at S5 ⊢
            clear nq osq
            clear bi4 ri4 pi4 ei4 bj4 rj4 pj4 ej4
            have bi5 : (first : Int) + (r : Int) < (n : Int) := by omega
            have ri5 : IntKind.i64.wrap ((first : Int) + (r : Int)) = (first : Int) + (r : Int) := by rw [IntKind.wrap_i64]; omega
            have pi5 : (0 : Int) ≤ (first : Int) + (r : Int) := by omega
            have ei5 : ((first : Int) + (r : Int)).toNat = first + r := by omega
            have bj5 : (first : Int) + (2 * (r : Int) + 1) < (n : Int) := by omega
            have rj5 : IntKind.i64.wrap ((first : Int) + (2 * (r : Int) + 1)) = (first : Int) + (2 * (r : Int) + 1) := by rw [IntKind.wrap_i64]; omega
            have pj5 : (0 : Int) ≤ (first : Int) + (2 * (r : Int) + 1) := by omega
            have ej5 : ((first : Int) + (2 * (r : Int) + 1)).toNat = first + (2 * r + 1) := by omega
            obtain ⟨⟨x1, x2⟩, hx⟩ : ∃ x : It, x = dk[first + r]! := ⟨_, rfl⟩
            obtain ⟨⟨y1, y2⟩, hy⟩ : ∃ y : It, y = dk[first + (2 * r + 1)]! := ⟨_, rfl⟩
            obtain ⟨c11, c12, f11, f12⟩ := S5.out.holds (first + r) (by omega)
            obtain ⟨c21, c22, f21, f22⟩ := S5.out.holds (first + (2 * r + 1)) (by omega)
            rw [← hx] at c11 c12
            rw [← hy] at c21 c22
            dsimp only at c11 c12 c21 c22
            obtain ⟨u3, g3⟩ := S5.out.third (first + r) (first + (2 * r + 1)) (by omega) (by omega) (.int .i64 y1) (.int .i64 y2)
            obtain ⟨u4, g4⟩ := S5.out.fourth (first + r) (first + (2 * r + 1)) (by omega) (by omega) (.int .i64 y1) (.int .i64 y2) (.int .i64 x1)
            have S6 : Aside _ := (S5.out.swap (by omega) (by omega) hx hy).drew
            dsimp only at S6
            clear hx hy
            go_wp2_with fail
            go_region
            clear c11 c12 c21 c22 f11 f12 f21 f22 g3 g4
            generalize ((((w5.setCell ⟨blk, off + (first + r) * 2, none⟩ (.int .i64 y1)).setCell ⟨blk, off + (first + r) * 2 + 1, none⟩ (.int .i64 y2)).setCell ⟨blk, off + (first + (2 * r + 1)) * 2, none⟩ (.int .i64 x1)).setCell ⟨blk, off + (first + (2 * r + 1)) * 2 + 1, none⟩ (.int .i64 x2)).drew = w6 at S6 ⊢
            clear bi5 ri5 pi5 ei5 bj5 rj5 pj5 ej5
            go_wp2_with fail
            go_roundg (hi - (2 * r + 1))
            case measure => omega
            case rel => exact ⟨2 * r + 1, swp dk (first + r) (first + (2 * r + 1)), by go_num, by omega, by omega, by rw [size_swp]; exact hsk, S6, (sift_left_go _ _ _ _ (by omega) (Or.inr HV'.out) HU'.out).symm.trans HO.out⟩
          · have hcd : decide (c < 0) = false := decide_eq_false hcl
            replace HU := HU.out.trans hcd
            have HU' : Aside _ := HU
            clear HU
            go_wp2_with fail
            go_quiet_grown (first | (go_at_call 43; refine Calls.grown_of (hcc _)))
            have S5 : Aside _ := S2.out.grow nq osq
            clear c11 c12 c21 c22 hcc
            generalize grow (w2.drewN nq) osq = w5 at S5 ⊢
            clear nq osq
            clear bi4 ri4 pi4 ei4 bj4 rj4 pj4 ej4
            go_wp2_with fail
            (try simp only [Exit.inBlock, Exit.then]); refine bodyPost_ret (results_none rfl _ _ _) rfl ?_
            exact ⟨rfl, by rw [← HO.out, sift_left_stop _ _ _ _ (by omega) (Or.inr HV'.out) HU'.out]; exact S5.out⟩
      · have hrtz : decide (2 * (r : Int) + 1 + 1 < (hi : Int)) = false := by refine decide_eq_false ?_; omega
        have wch : IntKind.i64.wrap (2 * (r : Int) + 1 + 1) = 2 * (r : Int) + 1 + 1 := by rw [IntKind.wrap_i64]; omega
        go_wp2_with fail
        go_quiet (fail)
        have S2 : Aside _ := Sk.out.drewN nq
        generalize wr.drewN nq = w2 at S2 ⊢
        clear nq
        have bi6 : (first : Int) + (r : Int) < (n : Int) := by omega
        have ri6 : IntKind.i64.wrap ((first : Int) + (r : Int)) = (first : Int) + (r : Int) := by rw [IntKind.wrap_i64]; omega
        have pi6 : (0 : Int) ≤ (first : Int) + (r : Int) := by omega
        have ei6 : ((first : Int) + (r : Int)).toNat = first + r := by omega
        have bj6 : (first : Int) + (2 * (r : Int) + 1) < (n : Int) := by omega
        have rj6 : IntKind.i64.wrap ((first : Int) + (2 * (r : Int) + 1)) = (first : Int) + (2 * (r : Int) + 1) := by rw [IntKind.wrap_i64]; omega
        have pj6 : (0 : Int) ≤ (first : Int) + (2 * (r : Int) + 1) := by omega
        have ej6 : ((first : Int) + (2 * (r : Int) + 1)).toNat = first + (2 * r + 1) := by omega
        obtain ⟨⟨x1, x2⟩, hx⟩ : ∃ x : It, x = dk[first + r]! := ⟨_, rfl⟩
        obtain ⟨⟨y1, y2⟩, hy⟩ : ∃ y : It, y = dk[first + (2 * r + 1)]! := ⟨_, rfl⟩
        have c11 := fun n' os => (S2.out.cells (i := first + r) (by omega) hx n' os).1
        have c12 := fun n' os => (S2.out.cells (i := first + r) (by omega) hx n' os).2
        have c21 := fun n' os => (S2.out.cells (i := first + (2 * r + 1)) (by omega) hy n' os).1
        have c22 := fun n' os => (S2.out.cells (i := first + (2 * r + 1)) (by omega) hy n' os).2
        have hcc := CmpC.out HC (x1, x2) (y1, y2)
        dsimp only [vIt] at c11 c12 c21 c22 hcc
        obtain ⟨c, hc⟩ : ∃ c, c = cf (x1, x2) (y1, y2) := ⟨_, rfl⟩
        rw [← hc] at hcc
        have HU : Aside (ltC cf dk[first + r]! dk[first + (2 * r + 1)]! = decide (c < 0)) := by show ltC cf _ _ = _; rw [← hx, ← hy, hc]; rfl
        clear hx hy hc
        by_cases hcl : c < 0
        · have hcd : decide (c < 0) = true := decide_eq_true hcl
          replace HU := HU.out.trans hcd
          have HU' : Aside _ := HU
          clear HU
          go_wp2_with fail
          go_quiet_grown (first | (go_at_call 43; refine Calls.grown_of (hcc _)))
          have S5 : Aside _ := S2.out.grow nq osq
          clear c11 c12 c21 c22 hcc
          generalize grow (w2.drewN nq) osq = w5 at S5 ⊢
          clear nq osq
          clear bi6 ri6 pi6 ei6 bj6 rj6 pj6 ej6
          have bi7 : (first : Int) + (r : Int) < (n : Int) := by omega
          have ri7 : IntKind.i64.wrap ((first : Int) + (r : Int)) = (first : Int) + (r : Int) := by rw [IntKind.wrap_i64]; omega
          have pi7 : (0 : Int) ≤ (first : Int) + (r : Int) := by omega
          have ei7 : ((first : Int) + (r : Int)).toNat = first + r := by omega
          have bj7 : (first : Int) + (2 * (r : Int) + 1) < (n : Int) := by omega
          have rj7 : IntKind.i64.wrap ((first : Int) + (2 * (r : Int) + 1)) = (first : Int) + (2 * (r : Int) + 1) := by rw [IntKind.wrap_i64]; omega
          have pj7 : (0 : Int) ≤ (first : Int) + (2 * (r : Int) + 1) := by omega
          have ej7 : ((first : Int) + (2 * (r : Int) + 1)).toNat = first + (2 * r + 1) := by omega
          obtain ⟨⟨x1, x2⟩, hx⟩ : ∃ x : It, x = dk[first + r]! := ⟨_, rfl⟩
          obtain ⟨⟨y1, y2⟩, hy⟩ : ∃ y : It, y = dk[first + (2 * r + 1)]! := ⟨_, rfl⟩
          obtain ⟨c11, c12, f11, f12⟩ := S5.out.holds (first + r) (by omega)
          obtain ⟨c21, c22, f21, f22⟩ := S5.out.holds (first + (2 * r + 1)) (by omega)
          rw [← hx] at c11 c12
          rw [← hy] at c21 c22
          dsimp only at c11 c12 c21 c22
          obtain ⟨u3, g3⟩ := S5.out.third (first + r) (first + (2 * r + 1)) (by omega) (by omega) (.int .i64 y1) (.int .i64 y2)
          obtain ⟨u4, g4⟩ := S5.out.fourth (first + r) (first + (2 * r + 1)) (by omega) (by omega) (.int .i64 y1) (.int .i64 y2) (.int .i64 x1)
          have S6 : Aside _ := (S5.out.swap (by omega) (by omega) hx hy).drew
          dsimp only at S6
          clear hx hy
          go_wp2_with fail
          go_region
          clear c11 c12 c21 c22 f11 f12 f21 f22 g3 g4
          generalize ((((w5.setCell ⟨blk, off + (first + r) * 2, none⟩ (.int .i64 y1)).setCell ⟨blk, off + (first + r) * 2 + 1, none⟩ (.int .i64 y2)).setCell ⟨blk, off + (first + (2 * r + 1)) * 2, none⟩ (.int .i64 x1)).setCell ⟨blk, off + (first + (2 * r + 1)) * 2 + 1, none⟩ (.int .i64 x2)).drew = w6 at S6 ⊢
          clear bi7 ri7 pi7 ei7 bj7 rj7 pj7 ej7
          go_wp2_with fail
          go_roundg (hi - (2 * r + 1))
          case measure => omega
          case rel => exact ⟨2 * r + 1, swp dk (first + r) (first + (2 * r + 1)), by go_num, by omega, by omega, by rw [size_swp]; exact hsk, S6, (sift_left_go _ _ _ _ (by omega) (Or.inl hrt) HU'.out).symm.trans HO.out⟩
        · have hcd : decide (c < 0) = false := decide_eq_false hcl
          replace HU := HU.out.trans hcd
          have HU' : Aside _ := HU
          clear HU
          go_wp2_with fail
          go_quiet_grown (first | (go_at_call 43; refine Calls.grown_of (hcc _)))
          have S5 : Aside _ := S2.out.grow nq osq
          clear c11 c12 c21 c22 hcc
          generalize grow (w2.drewN nq) osq = w5 at S5 ⊢
          clear nq osq
          clear bi6 ri6 pi6 ei6 bj6 rj6 pj6 ej6
          go_wp2_with fail
          (try simp only [Exit.inBlock, Exit.then]); refine bodyPost_ret (results_none rfl _ _ _) rfl ?_
          exact ⟨rfl, by rw [← HO.out, sift_left_stop _ _ _ _ (by omega) (Or.inl hrt) HU'.out]; exact S5.out⟩
end Go.Proofs.YtglgmkikegbchaaGreat
