/- reverseRange: the text over the keys alone, floats. -/
import Derived.Test.YtglgmkikegbchaaWx0
import Derived.Test.YtglgmkikegbchaaPb
namespace Go.Proofs.Ytglgmkikegbchaa
open Go.RowKit Go.Sort
attribute [local go_sem] run_store_float

theorem revGo_x {α : Type} [Inhabited α] (i j : Nat) (d : Array α) (h : i < j + 1) : reverseLoop i (j + 1) d = reverseLoop (i + 1) j (swp d i (j + 1)) := by
  rw [reverseLoop, if_pos h]
  rfl
theorem revStop_x {α : Type} [Inhabited α] (i j : Nat) (d : Array α) (h : ¬ i < j) : reverseLoop i j d = d := by
  rw [reverseLoop, if_neg h]
set_option maxHeartbeats 4000000 in
set_option maxRecDepth 1000000 in
theorem reverseRange_x (w0 : World) (blk off cap n : Nat) (d : Array Nat) (w : World) (S : St1 eFl w0 blk off d w) (hn : d.size = n) (hsz : n < 4611686018427387904) (a b : Nat) (hab : a ≤ b) (hb : b ≤ n) :
    Calls Try.prog 122 #[.slice (some ⟨blk, off, none⟩) n cap, .int .i64 a, .int .i64 b] w fun e w' =>
      e = .returned (.tuple #[]) ∧ St1 eFl w0 blk off (reverseRange d a b) w' := by
  have hRR : Hid (reverseLoop a (b - 1) d = reverseRange d a b) := rfl
  generalize reverseRange d a b = R at hRR ⊢
  by_cases hb0 : b = 0
  · obtain rfl : a = 0 := by omega
    subst hb0
    have hR : R = d := by rw [← hRR.out, revStop_x _ _ _ (by omega)]
    rw [hR]
    clear hRR hR
    have S0 : Aside (St1 eFl w0 blk off d w) := S
    clear S
    go_enter Try.func122, Try.ntmps122
    have w0 : IntKind.i64.wrap (0 - 1) = -1 := by decide
    go_wp2_with fail
    refine wp_loop_rounds 1 ?_
    rw [rounds_succ]
    go_wp2_with fail
    go_end0
    exact ⟨rfl, S0.out⟩
  · obtain ⟨bp, rfl⟩ : ∃ bp, b = bp + 1 := ⟨b - 1, by omega⟩
    rw [Nat.add_sub_cancel] at hRR
    have S0 : Aside (St1 eFl w0 blk off d w) := S
    clear S
    go_enter Try.func122, Try.ntmps122
    go_wp2
    go_loopg [6, 7] bp (fun g vi vj wr => ∃ (i j : Nat) (dk : Array Nat), vi = .int .i64 i ∧ vj = .int .i64 j ∧ i ≤ j + 1 ∧ j < n ∧ j - i ≤ g ∧ dk.size = n ∧ Aside (St1 eFl w0 blk off dk wr) ∧ Hid (reverseLoop i j dk = R))
    case atStart => exact ⟨a, bp, d, rfl, by go_num, by omega, by omega, by omega, hn, S0, hRR⟩
    case round =>
      obtain ⟨i, j, dk, rfl, rfl, hij, hj, hg, hsk, Sk, HO⟩ := hrel
      by_cases hlt : i < j
      · obtain ⟨jp, rfl⟩ : ∃ jp, j = jp + 1 := ⟨j - 1, by omega⟩
        have hltz : (i : Int) < (jp : Int) + 1 := by omega
        have bi1 : (i : Int) < (n : Int) := by omega
        have bj1 : (jp : Int) + 1 < (n : Int) := by omega
        have pj1 : (0 : Int) ≤ (jp : Int) + 1 := by omega
        have ej1 : ((jp : Int) + 1).toNat = jp + 1 := by omega
        obtain ⟨x, hx⟩ : ∃ x, x = dk[i]! := ⟨_, rfl⟩
        obtain ⟨y, hy⟩ : ∃ y, y = dk[jp + 1]! := ⟨_, rfl⟩
        have c1 : wr.cell? ⟨blk, off + (i), none⟩ = some (.float .f64 x) := by rw [hx]; exact Sk.out.cell (by omega)
        have c2 : wr.cell? ⟨blk, off + (jp + 1), none⟩ = some (.float .f64 y) := by rw [hy]; exact Sk.out.cell (by omega)
        have f1 : wr.frozen? ⟨blk, off + (i), none⟩ = false := Sk.out.frozen (by omega)
        have f2 : wr.frozen? ⟨blk, off + (jp + 1), none⟩ = false := Sk.out.frozen (by omega)
        obtain ⟨u2, g2⟩ := Sk.out.second (i) (jp + 1) (by omega) (by omega) (.float .f64 y)
        have S2 : Aside _ := (Sk.out.swap (by omega) (by omega) hx hy).drew
        clear hx hy
        go_wp2_with fail
        go_region
        clear c1 c2 f1 f2 g2
        generalize ((wr.setCell ⟨blk, off + (i), none⟩ (.float .f64 y)).setCell ⟨blk, off + (jp + 1), none⟩ (.float .f64 x)).drew = w2 at S2 ⊢
        clear bi1 bj1 pj1 ej1
        go_wp2_with fail
        go_roundg (jp - (i + 1))
        case measure => omega
        case rel => exact ⟨i + 1, jp, swp dk i (jp + 1), by go_num, by go_num, by omega, by omega, by omega, by rw [size_swp]; exact hsk, S2, (revGo_x _ _ _ hlt).symm.trans HO.out⟩
      · have hltz : ¬ (i : Int) < (j : Int) := by omega
        go_wp2
        go_end0
        exact ⟨rfl, by rw [← HO.out, revStop_x _ _ _ hlt]; exact Sk.out⟩
end Go.Proofs.Ytglgmkikegbchaa
