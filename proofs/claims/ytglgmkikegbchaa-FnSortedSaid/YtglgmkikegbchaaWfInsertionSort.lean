/- insertionSort: the text over an Interface. -/
import Derived.Test.YtglgmkikegbchaaWf0
namespace Go.Proofs.Ytglgmkikegbchaa
open Go.RowKit Go.Sort

set_option maxHeartbeats 4000000 in
set_option maxRecDepth 1000000 in
theorem insertionSort_f (T : TypeId) (rv : Value) (lt : It → It → Bool) (gl gs : Nat) (rl rs : Value) (w0 : World) (blk off n : Nat) (F : FaceOk T rv lt w0 blk off n gl gs rl rs) (d : Array It) (w : World) (S : St2 w0 blk off d w) (hn : d.size = n) (hsz : n < 4611686018427387904) (a b : Nat) (hab : a ≤ b) (hb : b ≤ n) :
    Calls Try.prog 105 #[.iface T rv, .int .i64 a, .int .i64 b] w fun e w' =>
      e = .returned (.tuple #[]) ∧ St2 w0 blk off (insertionSort lt d a b) w' := by
  have eL := F.eL
  have eS := F.eS
  have S0 : Aside (St2 w0 blk off d w) := S
  clear S
  go_enter Try.func105, Try.ntmps105
  go_wp2
  go_loopg [6] (b - a) (fun g vi wr => ∃ (i : Nat) (dk : Array It), vi = .int .i64 i ∧ a < i ∧ i ≤ b + 1 ∧ b + 1 - i ≤ g + 1 ∧ dk.size = n ∧ Aside (St2 w0 blk off dk wr) ∧ Hid (insOuter lt a b i dk = insOuter lt a b (a + 1) d))
  case atStart => exact ⟨a + 1, d, by go_num, by omega, by omega, by omega, hn, S0, rfl⟩
  case round =>
    obtain ⟨i, dk, rfl, hai, hib, hg, hsk, Sk, HO⟩ := hrel
    by_cases hlt : i < b
    · have hltz : (i : Int) < (b : Int) := by omega
      go_wp2
      go_loopg [7] i (fun g2 vj wj => ∃ (j : Nat) (dj : Array It), vj = .int .i64 j ∧ a ≤ j ∧ j ≤ i ∧ j ≤ g2 ∧ dj.size = n ∧ Aside (St2 w0 blk off dj wj) ∧ Hid (insInner lt a j dj = insInner lt a i dk))
      case atStart => exact ⟨i, dk, rfl, by omega, Nat.le_refl _, Nat.le_refl _, hsk, Sk, rfl⟩
      case round =>
        obtain ⟨j, dj, rfl, haj, hji, hg2, hsj, Sj, HI⟩ := hrel
        have OUT : Aside ((j ≤ a ∨ lt dj[j]! dj[j - 1]! = false) → Hid (insOuter lt a b (i + 1) dj = insOuter lt a b (a + 1) d)) := fun hs => by
          show _ = _
          rw [← HO.out, insO_go _ _ _ _ hlt, ← HI.out, insI_stop _ _ _ hs]
        clear Sk
        by_cases hja : a < j
        · obtain ⟨jp, rfl⟩ : ∃ jp, j = jp + 1 := ⟨j - 1, by omega⟩
          have hjaz' : (a : Int) < (jp : Int) + 1 := by omega
          have mL := F.methL _ wr Sj.out
          have mS := F.methS _ wr Sj.out
          have hl := F.less dj wr (jp + 1) (jp) (by omega) Sj.out (by omega) (by omega)
          rw [show ((jp + 1 : Nat) : Int) = (jp : Int) + 1 by omega] at hl
          obtain ⟨c, hc⟩ : ∃ c, c = lt dj[jp + 1]! dj[jp]! := ⟨_, rfl⟩
          rw [← hc] at hl
          have HV : Aside (lt dj[jp + 1]! dj[jp]! = c) := hc.symm
          clear hc
          cases c with
          | true =>
            have HV' : Aside _ := HV
            clear HV
            go_wp2_with fail
            refine hl.mono ?_
            rintro e w' ⟨rfl, q, os, rfl⟩
            have S2 : Aside _ := Sj.out.grow q os
            clear mL mS hl
            generalize grow (wr.drewN q) os = w2 at S2 ⊢
            clear q os
            have mL := F.methL _ w2 S2.out
            have mS := F.methS _ w2 S2.out
            have hs := F.swap dj w2 (jp + 1) (jp) (by omega) S2.out (by omega) (by omega)
            rw [show ((jp + 1 : Nat) : Int) = (jp : Int) + 1 by omega] at hs
            go_wp2_with fail
            refine hs.mono ?_
            rintro e w3 ⟨rfl, S3q, hgr⟩
            have S3 : Aside _ := S3q
            clear mL mS hs hgr S3q
            have mL := F.methL _ w3 S3.out
            have mS := F.methS _ w3 S3.out
            go_wp2_with fail
            go_roundg jp
            case measure => omega
            case rel =>
              refine ⟨jp, swp dj (jp + 1) jp, rfl, by omega, by omega, by omega, by rw [size_swp]; exact hsj, S3, ?_⟩
              show _ = _
              rw [← HI.out, insI_go _ _ _ hja HV'.out]
          | false =>
            have HV' : Aside _ := HV
            clear HV
            go_wp2_with fail
            refine hl.mono ?_
            rintro e w' ⟨rfl, q, os, rfl⟩
            have S2 : Aside _ := Sj.out.grow q os
            clear mL mS hl
            generalize grow (wr.drewN q) os = w2 at S2 ⊢
            clear q os
            have mL := F.methL _ w2 S2.out
            have mS := F.methS _ w2 S2.out
            go_wp2_with fail
            go_roundg (b - (i + 1))
            case measure => omega
            case rel => exact ⟨i + 1, dj, by go_num, by omega, by omega, by omega, hsj, S2, OUT.out (Or.inr HV'.out)⟩
        · have hjaz : ¬ (a : Int) < (j : Int) := by omega
          go_wp2_with fail
          go_roundg (b - (i + 1))
          case measure => omega
          case rel => exact ⟨i + 1, dj, by go_num, by omega, by omega, by omega, hsj, Sj, OUT.out (Or.inl (by omega))⟩
    · have hltz : ¬ (i : Int) < (b : Int) := by omega
      go_wp2
      go_end0
      exact ⟨rfl, by unfold insertionSort; rw [← HO.out, insO_stop _ _ _ _ hlt]; exact Sk.out⟩
end Go.Proofs.Ytglgmkikegbchaa
