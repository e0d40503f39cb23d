/- insertionSort: the text over the keys alone, floats. -/
import Derived.Test.YtglgmkikegbchaaWx0
namespace Go.Proofs.Ytglgmkikegbchaa
open Go.RowKit Go.Sort
attribute [local go_sem] run_store_float

set_option maxHeartbeats 4000000 in
set_option maxRecDepth 1000000 in
theorem insertionSort_x (w0 : World) (blk off cap n : Nat) (d : Array Nat) (w : World) (S : St1 eFl w0 blk off d w) (hn : d.size = n) (hsz : n < 4611686018427387904) (a b : Nat) (hab : a ≤ b) (hb : b ≤ n) :
    Calls Try.prog 118 #[.slice (some ⟨blk, off, none⟩) n cap, .int .i64 a, .int .i64 b] w fun e w' =>
      e = .returned (.tuple #[]) ∧ St1 eFl w0 blk off (insertionSort ltFl d a b) w' := by
  have S0 : Aside (St1 eFl w0 blk off d w) := S
  clear S
  go_enter Try.func118, Try.ntmps118
  go_wp2
  go_loopg [6] (b - a) (fun g vi wr => ∃ (i : Nat) (dk : Array Nat), vi = .int .i64 i ∧ a < i ∧ i ≤ b + 1 ∧ b + 1 - i ≤ g + 1 ∧ dk.size = n ∧ Aside (St1 eFl w0 blk off dk wr) ∧ Hid (insOuter ltFl a b i dk = insOuter ltFl a b (a + 1) d))
  case atStart => exact ⟨a + 1, d, by go_num, by omega, by omega, by omega, hn, S0, rfl⟩
  case round =>
    obtain ⟨i, dk, rfl, hai, hib, hg, hsk, Sk, HO⟩ := hrel
    by_cases hlt : i < b
    · have hltz : (i : Int) < (b : Int) := by omega
      go_wp2
      go_loopg [7] i (fun g2 vj wj => ∃ (j : Nat) (dj : Array Nat), vj = .int .i64 j ∧ a ≤ j ∧ j ≤ i ∧ j ≤ g2 ∧ dj.size = n ∧ Aside (St1 eFl w0 blk off dj wj) ∧ Hid (insInner ltFl a j dj = insInner ltFl a i dk))
      case atStart => exact ⟨i, dk, rfl, by omega, Nat.le_refl _, Nat.le_refl _, hsk, Sk, rfl⟩
      case round =>
        obtain ⟨j, dj, rfl, haj, hji, hg2, hsj, Sj, HI⟩ := hrel
        have OUT : Aside ((j ≤ a ∨ ltFl dj[j]! dj[j - 1]! = false) → Hid (insOuter ltFl a b (i + 1) dj = insOuter ltFl a b (a + 1) d)) := fun hs => by
          show _ = _
          rw [← HO.out, insO_go _ _ _ _ hlt, ← HI.out, insI_stop _ _ _ hs]
        clear Sk
        by_cases hja : a < j
        · obtain ⟨jp, rfl⟩ : ∃ jp, j = jp + 1 := ⟨j - 1, by omega⟩
          have hjaz' : (a : Int) < (jp : Int) + 1 := by omega
          have bi1 : (jp : Int) + 1 < (n : Int) := by omega
          have pi1 : (0 : Int) ≤ (jp : Int) + 1 := by omega
          have ei1 : ((jp : Int) + 1).toNat = jp + 1 := by omega
          have bj1 : (jp : Int) < (n : Int) := by omega
          obtain ⟨x, hx⟩ : ∃ x, x = dj[jp + 1]! := ⟨_, rfl⟩
          obtain ⟨y, hy⟩ : ∃ y, y = dj[jp]! := ⟨_, rfl⟩
          have c1 : wr.cell? ⟨blk, off + (jp + 1), none⟩ = some (.float .f64 x) := by rw [hx]; exact Sj.out.cell (by omega)
          have c2 : wr.cell? ⟨blk, off + (jp), none⟩ = some (.float .f64 y) := by rw [hy]; exact Sj.out.cell (by omega)
          have hless : ∀ c W, ltFl x y = c → Calls Try.prog 124 #[.float .f64 x, .float .f64 y] W fun e w' => e = .returned (.bool c) ∧ w' = W := fun c W hc => by rw [← hc]; exact less_x x y W
          obtain ⟨c, hc⟩ : ∃ c, c = ltFl x y := ⟨_, rfl⟩
          have HV : Aside (ltFl dj[jp + 1]! dj[jp]! = c) := by show ltFl _ _ = _; rw [← hx, ← hy, hc]
          replace hless := fun W => hless c W hc.symm
          clear hx hy hc
          cases c with
          | true =>
            have HV' : Aside _ := HV
            clear HV
            go_wp2_with fail
            go_quiet (first | (go_at_call 124; refine Calls.quiet_of_same (hless _)))
            have S2 : Aside _ := Sj.out.drewN nq
            clear c1 c2 hless
            generalize wr.drewN nq = w2 at S2 ⊢
            clear nq
            clear bi1 pi1 ei1 bj1
            have bi2 : (jp : Int) + 1 < (n : Int) := by omega
            have pi2 : (0 : Int) ≤ (jp : Int) + 1 := by omega
            have ei2 : ((jp : Int) + 1).toNat = jp + 1 := by omega
            have bj2 : (jp : Int) < (n : Int) := by omega
            obtain ⟨x, hx⟩ : ∃ x, x = dj[jp + 1]! := ⟨_, rfl⟩
            obtain ⟨y, hy⟩ : ∃ y, y = dj[jp]! := ⟨_, rfl⟩
            have c1 : w2.cell? ⟨blk, off + (jp + 1), none⟩ = some (.float .f64 x) := by rw [hx]; exact S2.out.cell (by omega)
            have c2 : w2.cell? ⟨blk, off + (jp), none⟩ = some (.float .f64 y) := by rw [hy]; exact S2.out.cell (by omega)
            have f1 : w2.frozen? ⟨blk, off + (jp + 1), none⟩ = false := S2.out.frozen (by omega)
            have f2 : w2.frozen? ⟨blk, off + (jp), none⟩ = false := S2.out.frozen (by omega)
            obtain ⟨u2, g2⟩ := S2.out.second (jp + 1) (jp) (by omega) (by omega) (.float .f64 y)
            have S3 : Aside _ := (S2.out.swap (by omega) (by omega) hx hy).drew
            clear hx hy
            go_wp2_with fail
            go_region
            clear c1 c2 f1 f2 g2
            generalize ((w2.setCell ⟨blk, off + (jp + 1), none⟩ (.float .f64 y)).setCell ⟨blk, off + (jp), none⟩ (.float .f64 x)).drew = w3 at S3 ⊢
            clear bi2 pi2 ei2 bj2
            go_wp2_with fail
            go_roundg jp
            case measure => omega
            case rel =>
              refine ⟨jp, swp dj (jp + 1) jp, rfl, by omega, by omega, by omega, by rw [size_swp]; exact hsj, S3, ?_⟩
              show _ = _
              rw [← HI.out, insI_go _ _ _ hja HV'.out]
          | false =>
            have HV' : Aside _ := HV
            clear HV
            go_wp2_with fail
            go_quiet (first | (go_at_call 124; refine Calls.quiet_of_same (hless _)))
            have S2 : Aside _ := Sj.out.drewN nq
            clear c1 c2 hless
            generalize wr.drewN nq = w2 at S2 ⊢
            clear nq
            clear bi1 pi1 ei1 bj1
            go_wp2_with fail
            go_roundg (b - (i + 1))
            case measure => omega
            case rel => exact ⟨i + 1, dj, by go_num, by omega, by omega, by omega, hsj, S2, OUT.out (Or.inr HV'.out)⟩
        · have hjaz : decide ((a : Int) < (j : Int)) = false := by refine decide_eq_false ?_; omega
          go_wp2_with fail
          go_quiet (fail)
          have S2 : Aside _ := Sj.out.drewN nq
          generalize wr.drewN nq = w2 at S2 ⊢
          clear nq
          go_wp2_with fail
          go_roundg (b - (i + 1))
          case measure => omega
          case rel => exact ⟨i + 1, dj, by go_num, by omega, by omega, by omega, hsj, S2, OUT.out (Or.inl (by omega))⟩
    · have hltz : ¬ (i : Int) < (b : Int) := by omega
      go_wp2
      go_end0
      exact ⟨rfl, by unfold insertionSort; rw [← HO.out, insO_stop _ _ _ _ hlt]; exact Sk.out⟩
end Go.Proofs.Ytglgmkikegbchaa
