/- reverseRange: the text over an Interface. -/
import Derived.Test.YtglgmkikegbchaaWf0
import Derived.Test.YtglgmkikegbchaaPb
namespace Go.Proofs.Ytglgmkikegbchaa
open Go.RowKit Go.Sort

theorem revGo_f {α : Type} [Inhabited α] (i j : Nat) (d : Array α) (h : i < j + 1) : reverseLoop i (j + 1) d = reverseLoop (i + 1) j (swp d i (j + 1)) := by
  rw [reverseLoop, if_pos h]
  rfl
theorem revStop_f {α : Type} [Inhabited α] (i j : Nat) (d : Array α) (h : ¬ i < j) : reverseLoop i j d = d := by
  rw [reverseLoop, if_neg h]
set_option maxHeartbeats 4000000 in
set_option maxRecDepth 1000000 in
theorem reverseRange_f (T : TypeId) (rv : Value) (lt : It → It → Bool) (gl gs : Nat) (rl rs : Value) (w0 : World) (blk off n : Nat) (F : FaceOk T rv lt w0 blk off n gl gs rl rs) (d : Array It) (w : World) (S : St2 w0 blk off d w) (hn : d.size = n) (hsz : n < 4611686018427387904) (a b : Nat) (hab : a ≤ b) (hb : b ≤ n) :
    Calls Try.prog 109 #[.iface T rv, .int .i64 a, .int .i64 b] w fun e w' =>
      e = .returned (.tuple #[]) ∧ St2 w0 blk off (reverseRange d a b) w' := by
  have hRR : Hid (reverseLoop a (b - 1) d = reverseRange d a b) := rfl
  generalize reverseRange d a b = R at hRR ⊢
  by_cases hb0 : b = 0
  · obtain rfl : a = 0 := by omega
    subst hb0
    have hR : R = d := by rw [← hRR.out, revStop_f _ _ _ (by omega)]
    rw [hR]
    clear hRR hR
    have eL := F.eL
    have eS := F.eS
    have S0 : Aside (St2 w0 blk off d w) := S
    clear S
    go_enter Try.func109, Try.ntmps109
    have w0 : IntKind.i64.wrap (0 - 1) = -1 := by decide
    go_wp2_with fail
    refine wp_loop_rounds 1 ?_
    rw [rounds_succ]
    go_wp2_with fail
    go_end0
    exact ⟨rfl, S0.out⟩
  · obtain ⟨bp, rfl⟩ : ∃ bp, b = bp + 1 := ⟨b - 1, by omega⟩
    rw [Nat.add_sub_cancel] at hRR
    have eL := F.eL
    have eS := F.eS
    have S0 : Aside (St2 w0 blk off d w) := S
    clear S
    go_enter Try.func109, Try.ntmps109
    go_wp2
    go_loopg [6, 7] bp (fun g vi vj wr => ∃ (i j : Nat) (dk : Array It), vi = .int .i64 i ∧ vj = .int .i64 j ∧ i ≤ j + 1 ∧ j < n ∧ j - i ≤ g ∧ dk.size = n ∧ Aside (St2 w0 blk off dk wr) ∧ Hid (reverseLoop i j dk = R))
    case atStart => exact ⟨a, bp, d, rfl, by go_num, by omega, by omega, by omega, hn, S0, hRR⟩
    case round =>
      obtain ⟨i, j, dk, rfl, rfl, hij, hj, hg, hsk, Sk, HO⟩ := hrel
      by_cases hlt : i < j
      · obtain ⟨jp, rfl⟩ : ∃ jp, j = jp + 1 := ⟨j - 1, by omega⟩
        have hltz : (i : Int) < (jp : Int) + 1 := by omega
        have mL := F.methL _ wr Sk.out
        have mS := F.methS _ wr Sk.out
        have hs := F.swap dk wr (i) (jp + 1) (by omega) Sk.out (by omega) (by omega)
        rw [show ((jp + 1 : Nat) : Int) = (jp : Int) + 1 by omega] at hs
        go_wp2_with fail
        refine hs.mono ?_
        rintro e w2 ⟨rfl, S2q, hgr⟩
        have S2 : Aside _ := S2q
        clear mL mS hs hgr S2q
        have mL := F.methL _ w2 S2.out
        have mS := F.methS _ w2 S2.out
        go_wp2_with fail
        go_roundg (jp - (i + 1))
        case measure => omega
        case rel => exact ⟨i + 1, jp, swp dk i (jp + 1), by go_num, by go_num, by omega, by omega, by omega, by rw [size_swp]; exact hsk, S2, (revGo_f _ _ _ hlt).symm.trans HO.out⟩
      · have hltz : ¬ (i : Int) < (j : Int) := by omega
        go_wp2
        go_end0
        exact ⟨rfl, by rw [← HO.out, revStop_f _ _ _ hlt]; exact Sk.out⟩
end Go.Proofs.Ytglgmkikegbchaa
