/- reverseRange: the text by a function that compares, over elements of two cells. -/
import Derived.Test.YtglgmkikegbchaaWc0
import Derived.Test.YtglgmkikegbchaaPb
namespace Go.Proofs.Ytglgmkikegbchaa
open Go.RowKit Go.Sort

theorem revGo_c {α : Type} [Inhabited α] (i j : Nat) (d : Array α) (h : i < j + 1) : reverseLoop i (j + 1) d = reverseLoop (i + 1) j (swp d i (j + 1)) := by
  rw [reverseLoop, if_pos h]
  rfl
theorem revStop_c {α : Type} [Inhabited α] (i j : Nat) (d : Array α) (h : ¬ i < j) : reverseLoop i j d = d := by
  rw [reverseLoop, if_neg h]
set_option maxHeartbeats 4000000 in
set_option maxRecDepth 1000000 in
theorem reverseRange_c (O : Value) (cf : It → It → Int) (hC : CmpC O cf) (w0 : World) (blk off cap n : Nat) (d : Array It) (w : World) (S : St2 w0 blk off d w) (hn : d.size = n) (hsz : n < 4611686018427387904) (a b : Nat) (hab : a ≤ b) (hb : b ≤ n) :
    Calls Try.prog 98 #[.slice (some ⟨blk, off, none⟩) n cap, .int .i64 a, .int .i64 b, .func (.func 36) #[O] #[]] w fun e w' =>
      e = .returned (.tuple #[]) ∧ St2 w0 blk off (reverseRange d a b) w' := by
  have hRR : Hid (reverseLoop a (b - 1) d = reverseRange d a b) := rfl
  generalize reverseRange d a b = R at hRR ⊢
  by_cases hb0 : b = 0
  · obtain rfl : a = 0 := by omega
    subst hb0
    have hR : R = d := by rw [← hRR.out, revStop_c _ _ _ (by omega)]
    rw [hR]
    clear hRR hR
    have mixed : Try.prog.follows .mixedOrders = true := by kernel_rfl
    have HC : Aside (CmpC O cf) := hC
    have S0 : Aside (St2 w0 blk off d w) := S
    clear S
    go_enter Try.func98, Try.ntmps98
    have w0 : IntKind.i64.wrap (0 - 1) = -1 := by decide
    go_wp2_with fail
    refine wp_loop_rounds 1 ?_
    rw [rounds_succ]
    go_wp2_with fail
    go_end0
    exact ⟨rfl, S0.out⟩
  · obtain ⟨bp, rfl⟩ : ∃ bp, b = bp + 1 := ⟨b - 1, by omega⟩
    rw [Nat.add_sub_cancel] at hRR
    have mixed : Try.prog.follows .mixedOrders = true := by kernel_rfl
    have HC : Aside (CmpC O cf) := hC
    have S0 : Aside (St2 w0 blk off d w) := S
    clear S
    go_enter Try.func98, Try.ntmps98
    go_wp2
    go_loopg [8, 9] bp (fun g vi vj wr => ∃ (i j : Nat) (dk : Array It), vi = .int .i64 i ∧ vj = .int .i64 j ∧ i ≤ j + 1 ∧ j < n ∧ j - i ≤ g ∧ dk.size = n ∧ Aside (St2 w0 blk off dk wr) ∧ Hid (reverseLoop i j dk = R))
    case atStart => exact ⟨a, bp, d, rfl, by go_num, by omega, by omega, by omega, hn, S0, hRR⟩
    case round =>
      obtain ⟨i, j, dk, rfl, rfl, hij, hj, hg, hsk, Sk, HO⟩ := hrel
      by_cases hlt : i < j
      · obtain ⟨jp, rfl⟩ : ∃ jp, j = jp + 1 := ⟨j - 1, by omega⟩
        have hltz : (i : Int) < (jp : Int) + 1 := by omega
        have bi1 : (i : Int) < (n : Int) := by omega
        have ri1 : IntKind.i64.wrap ((i : Int)) = (i : Int) := by rw [IntKind.wrap_i64]; omega
        have bj1 : (jp : Int) + 1 < (n : Int) := by omega
        have rj1 : IntKind.i64.wrap ((jp : Int) + 1) = (jp : Int) + 1 := by rw [IntKind.wrap_i64]; omega
        have pj1 : (0 : Int) ≤ (jp : Int) + 1 := by omega
        have ej1 : ((jp : Int) + 1).toNat = jp + 1 := by omega
        obtain ⟨⟨x1, x2⟩, hx⟩ : ∃ x : It, x = dk[i]! := ⟨_, rfl⟩
        obtain ⟨⟨y1, y2⟩, hy⟩ : ∃ y : It, y = dk[jp + 1]! := ⟨_, rfl⟩
        obtain ⟨c11, c12, f11, f12⟩ := Sk.out.holds (i) (by omega)
        obtain ⟨c21, c22, f21, f22⟩ := Sk.out.holds (jp + 1) (by omega)
        rw [← hx] at c11 c12
        rw [← hy] at c21 c22
        dsimp only at c11 c12 c21 c22
        obtain ⟨u3, g3⟩ := Sk.out.third (i) (jp + 1) (by omega) (by omega) (.int .i64 y1) (.int .i64 y2)
        obtain ⟨u4, g4⟩ := Sk.out.fourth (i) (jp + 1) (by omega) (by omega) (.int .i64 y1) (.int .i64 y2) (.int .i64 x1)
        have S2 : Aside _ := (Sk.out.swap (by omega) (by omega) hx hy).drew
        dsimp only at S2
        clear hx hy
        go_wp2_with fail
        go_region
        clear c11 c12 c21 c22 f11 f12 f21 f22 g3 g4
        generalize ((((wr.setCell ⟨blk, off + (i) * 2, none⟩ (.int .i64 y1)).setCell ⟨blk, off + (i) * 2 + 1, none⟩ (.int .i64 y2)).setCell ⟨blk, off + (jp + 1) * 2, none⟩ (.int .i64 x1)).setCell ⟨blk, off + (jp + 1) * 2 + 1, none⟩ (.int .i64 x2)).drew = w2 at S2 ⊢
        clear bi1 ri1 bj1 rj1 pj1 ej1
        go_wp2_with fail
        go_roundg (jp - (i + 1))
        case measure => omega
        case rel => exact ⟨i + 1, jp, swp dk i (jp + 1), by go_num, by go_num, by omega, by omega, by omega, by rw [size_swp]; exact hsk, S2, (revGo_c _ _ _ hlt).symm.trans HO.out⟩
      · have hltz : ¬ (i : Int) < (j : Int) := by omega
        go_wp2
        go_end0
        exact ⟨rfl, by rw [← HO.out, revStop_c _ _ _ hlt]; exact Sk.out⟩
end Go.Proofs.Ytglgmkikegbchaa
