/- insertionSort: the text by a function that compares, over elements of two cells. -/
import Derived.Test.YtglgmkikegbchaaWc0
namespace Go.Proofs.Ytglgmkikegbchaa
open Go.RowKit Go.Sort

set_option maxHeartbeats 4000000 in
set_option maxRecDepth 1000000 in
theorem insertionSort_c (O : Value) (cf : It → It → Int) (hC : CmpC O cf) (w0 : World) (blk off cap n : Nat) (d : Array It) (w : World) (S : St2 w0 blk off d w) (hn : d.size = n) (hsz : n < 4611686018427387904) (a b : Nat) (hab : a ≤ b) (hb : b ≤ n) :
    Calls Try.prog 94 #[.slice (some ⟨blk, off, none⟩) n cap, .int .i64 a, .int .i64 b, .func (.func 36) #[O] #[]] w fun e w' =>
      e = .returned (.tuple #[]) ∧ St2 w0 blk off (insertionSort (ltC cf) d a b) w' := by
  have mixed : Try.prog.follows .mixedOrders = true := by kernel_rfl
  have HC : Aside (CmpC O cf) := hC
  have S0 : Aside (St2 w0 blk off d w) := S
  clear S
  go_enter Try.func94, Try.ntmps94
  go_wp2
  go_loopg [8] (b - a) (fun g vi wr => ∃ (i : Nat) (dk : Array It), vi = .int .i64 i ∧ a < i ∧ i ≤ b + 1 ∧ b + 1 - i ≤ g + 1 ∧ dk.size = n ∧ Aside (St2 w0 blk off dk wr) ∧ Hid (insOuter (ltC cf) a b i dk = insOuter (ltC cf) a b (a + 1) d))
  case atStart => exact ⟨a + 1, d, by go_num, by omega, by omega, by omega, hn, S0, rfl⟩
  case round =>
    obtain ⟨i, dk, rfl, hai, hib, hg, hsk, Sk, HO⟩ := hrel
    by_cases hlt : i < b
    · have hltz : (i : Int) < (b : Int) := by omega
      go_wp2
      go_loopg [9] i (fun g2 vj wj => ∃ (j : Nat) (dj : Array It), vj = .int .i64 j ∧ a ≤ j ∧ j ≤ i ∧ j ≤ g2 ∧ dj.size = n ∧ Aside (St2 w0 blk off dj wj) ∧ Hid (insInner (ltC cf) a j dj = insInner (ltC cf) a i dk))
      case atStart => exact ⟨i, dk, rfl, by omega, Nat.le_refl _, Nat.le_refl _, hsk, Sk, rfl⟩
      case round =>
        obtain ⟨j, dj, rfl, haj, hji, hg2, hsj, Sj, HI⟩ := hrel
        have OUT : Aside ((j ≤ a ∨ (ltC cf) dj[j]! dj[j - 1]! = false) → Hid (insOuter (ltC cf) a b (i + 1) dj = insOuter (ltC cf) a b (a + 1) d)) := fun hs => by
          show _ = _
          rw [← HO.out, insO_go _ _ _ _ hlt, ← HI.out, insI_stop _ _ _ hs]
        clear Sk
        by_cases hja : a < j
        · obtain ⟨jp, rfl⟩ : ∃ jp, j = jp + 1 := ⟨j - 1, by omega⟩
          have hjaz' : (a : Int) < (jp : Int) + 1 := by omega
          have bi1 : (jp : Int) + 1 < (n : Int) := by omega
          have ri1 : IntKind.i64.wrap ((jp : Int) + 1) = (jp : Int) + 1 := by rw [IntKind.wrap_i64]; omega
          have pi1 : (0 : Int) ≤ (jp : Int) + 1 := by omega
          have ei1 : ((jp : Int) + 1).toNat = jp + 1 := by omega
          have bj1 : (jp : Int) < (n : Int) := by omega
          have rj1 : IntKind.i64.wrap ((jp : Int)) = (jp : Int) := by rw [IntKind.wrap_i64]; omega
          obtain ⟨⟨x1, x2⟩, hx⟩ : ∃ x : It, x = dj[jp + 1]! := ⟨_, rfl⟩
          obtain ⟨⟨y1, y2⟩, hy⟩ : ∃ y : It, y = dj[jp]! := ⟨_, rfl⟩
          have c11 := fun n' os => (Sj.out.cells (i := jp + 1) (by omega) hx n' os).1
          have c12 := fun n' os => (Sj.out.cells (i := jp + 1) (by omega) hx n' os).2
          have c21 := fun n' os => (Sj.out.cells (i := jp) (by omega) hy n' os).1
          have c22 := fun n' os => (Sj.out.cells (i := jp) (by omega) hy n' os).2
          have hcc := CmpC.out HC (x1, x2) (y1, y2)
          dsimp only [vIt] at c11 c12 c21 c22 hcc
          obtain ⟨c, hc⟩ : ∃ c, c = cf (x1, x2) (y1, y2) := ⟨_, rfl⟩
          rw [← hc] at hcc
          have HV : Aside (ltC cf dj[jp + 1]! dj[jp]! = decide (c < 0)) := by show ltC cf _ _ = _; rw [← hx, ← hy, hc]; rfl
          clear hx hy hc
          by_cases hcl : c < 0
          · have hcd : decide (c < 0) = true := decide_eq_true hcl
            replace HV := HV.out.trans hcd
            have HV' : Aside _ := HV
            clear HV
            go_wp2_with fail
            go_quiet_grown (first | (go_at_call 36; refine Calls.grown_of (hcc _)))
            have S2 : Aside _ := Sj.out.grow nq osq
            clear c11 c12 c21 c22 hcc
            generalize grow (wr.drewN nq) osq = w2 at S2 ⊢
            clear nq osq
            clear bi1 ri1 pi1 ei1 bj1 rj1
            have bi2 : (jp : Int) + 1 < (n : Int) := by omega
            have ri2 : IntKind.i64.wrap ((jp : Int) + 1) = (jp : Int) + 1 := by rw [IntKind.wrap_i64]; omega
            have pi2 : (0 : Int) ≤ (jp : Int) + 1 := by omega
            have ei2 : ((jp : Int) + 1).toNat = jp + 1 := by omega
            have bj2 : (jp : Int) < (n : Int) := by omega
            have rj2 : IntKind.i64.wrap ((jp : Int)) = (jp : Int) := by rw [IntKind.wrap_i64]; omega
            obtain ⟨⟨x1, x2⟩, hx⟩ : ∃ x : It, x = dj[jp + 1]! := ⟨_, rfl⟩
            obtain ⟨⟨y1, y2⟩, hy⟩ : ∃ y : It, y = dj[jp]! := ⟨_, rfl⟩
            obtain ⟨c11, c12, f11, f12⟩ := S2.out.holds (jp + 1) (by omega)
            obtain ⟨c21, c22, f21, f22⟩ := S2.out.holds (jp) (by omega)
            rw [← hx] at c11 c12
            rw [← hy] at c21 c22
            dsimp only at c11 c12 c21 c22
            obtain ⟨u3, g3⟩ := S2.out.third (jp + 1) (jp) (by omega) (by omega) (.int .i64 y1) (.int .i64 y2)
            obtain ⟨u4, g4⟩ := S2.out.fourth (jp + 1) (jp) (by omega) (by omega) (.int .i64 y1) (.int .i64 y2) (.int .i64 x1)
            have S3 : Aside _ := (S2.out.swap (by omega) (by omega) hx hy).drew
            dsimp only at S3
            clear hx hy
            go_wp2_with fail
            go_region
            clear c11 c12 c21 c22 f11 f12 f21 f22 g3 g4
            generalize ((((w2.setCell ⟨blk, off + (jp + 1) * 2, none⟩ (.int .i64 y1)).setCell ⟨blk, off + (jp + 1) * 2 + 1, none⟩ (.int .i64 y2)).setCell ⟨blk, off + (jp) * 2, none⟩ (.int .i64 x1)).setCell ⟨blk, off + (jp) * 2 + 1, none⟩ (.int .i64 x2)).drew = w3 at S3 ⊢
            clear bi2 ri2 pi2 ei2 bj2 rj2
            go_wp2_with fail
            go_roundg jp
            case measure => omega
            case rel =>
              refine ⟨jp, swp dj (jp + 1) jp, rfl, by omega, by omega, by omega, by rw [size_swp]; exact hsj, S3, ?_⟩
              show _ = _
              rw [← HI.out, insI_go _ _ _ hja HV'.out]
          · have hcd : decide (c < 0) = false := decide_eq_false hcl
            replace HV := HV.out.trans hcd
            have HV' : Aside _ := HV
            clear HV
            go_wp2_with fail
            go_quiet_grown (first | (go_at_call 36; refine Calls.grown_of (hcc _)))
            have S2 : Aside _ := Sj.out.grow nq osq
            clear c11 c12 c21 c22 hcc
            generalize grow (wr.drewN nq) osq = w2 at S2 ⊢
            clear nq osq
            clear bi1 ri1 pi1 ei1 bj1 rj1
            go_wp2_with fail
            go_roundg (b - (i + 1))
            case measure => omega
            case rel => exact ⟨i + 1, dj, by go_num, by omega, by omega, by omega, hsj, S2, OUT.out (Or.inr HV'.out)⟩
        · have hjaz : decide ((a : Int) < (j : Int)) = false := by refine decide_eq_false ?_; omega
          go_wp2_with fail
          go_quiet (fail)
          have S2 : Aside _ := Sj.out.drewN nq
          generalize wr.drewN nq = w2 at S2 ⊢
          clear nq
          go_wp2_with fail
          go_roundg (b - (i + 1))
          case measure => omega
          case rel => exact ⟨i + 1, dj, by go_num, by omega, by omega, by omega, hsj, S2, OUT.out (Or.inl (by omega))⟩
    · have hltz : ¬ (i : Int) < (b : Int) := by omega
      go_wp2
      go_end0
      exact ⟨rfl, by unfold insertionSort; rw [← HO.out, insO_stop _ _ _ _ hlt]; exact Sk.out⟩
end Go.Proofs.Ytglgmkikegbchaa
