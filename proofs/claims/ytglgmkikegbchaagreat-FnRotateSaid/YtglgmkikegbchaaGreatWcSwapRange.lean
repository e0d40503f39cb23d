/- swapRange: the text by a function that compares, over elements of two cells. -/
import Derived.Test.YtglgmkikegbchaaGreatWc0
import Derived.Test.YtglgmkikegbchaaGreatPb
namespace Go.Proofs.YtglgmkikegbchaaGreat
open Go.RowKit Go.Sort

set_option maxHeartbeats 4000000 in
set_option maxRecDepth 1000000 in
theorem swapRange_c (O : Value) (cf : It → It → Int) (hC : CmpC O cf) (w0 : World) (blk off cap n : Nat) (d : Array It) (w : World) (S : St2 w0 blk off d w) (hn : d.size = n) (hsz : n < 4611686018427387904) (a b c : Nat) (h1 : a + c ≤ n) (h2 : b + c ≤ n) :
    Calls Tryz.prog 136 #[.slice (some ⟨blk, off, none⟩) n cap, .int .i64 a, .int .i64 b, .int .i64 c, .func (.func 43) #[O] #[]] w fun e w' =>
      e = .returned (.tuple #[]) ∧ St2 w0 blk off (swapRange d a b c) w' := by
  have mixed : Tryz.prog.follows .mixedOrders = true := by kernel_rfl
  have HC : Aside (CmpC O cf) := hC
  have S0 : Aside (St2 w0 blk off d w) := S
  clear S
  go_enter Tryz.func136, Tryz.ntmps136
  go_wp2
  go_loopg [10] c (fun g vi wr => ∃ (i : Nat) (dk : Array It), vi = .int .i64 i ∧ i ≤ c ∧ c - i ≤ g ∧ dk.size = n ∧ Aside (St2 w0 blk off dk wr) ∧ Hid (swapLoop a b (c - i) i dk = swapRange d a b c))
  case atStart => exact ⟨0, d, rfl, Nat.zero_le _, by omega, hn, S0, rfl⟩
  case round =>
    obtain ⟨i, dk, rfl, hic, hg, hsk, Sk, HO⟩ := hrel
    by_cases hlt : i < c
    · have hltz : (i : Int) < (c : Int) := by omega
      have bi1 : (a : Int) + (i : Int) < (n : Int) := by omega
      have ri1 : IntKind.i64.wrap ((a : Int) + (i : Int)) = (a : Int) + (i : Int) := by rw [IntKind.wrap_i64]; omega
      have pi1 : (0 : Int) ≤ (a : Int) + (i : Int) := by omega
      have ei1 : ((a : Int) + (i : Int)).toNat = a + i := by omega
      have bj1 : (b : Int) + (i : Int) < (n : Int) := by omega
      have rj1 : IntKind.i64.wrap ((b : Int) + (i : Int)) = (b : Int) + (i : Int) := by rw [IntKind.wrap_i64]; omega
      have pj1 : (0 : Int) ≤ (b : Int) + (i : Int) := by omega
      have ej1 : ((b : Int) + (i : Int)).toNat = b + i := by omega
      obtain ⟨⟨x1, x2⟩, hx⟩ : ∃ x : It, x = dk[a + i]! := ⟨_, rfl⟩
      obtain ⟨⟨y1, y2⟩, hy⟩ : ∃ y : It, y = dk[b + i]! := ⟨_, rfl⟩
      obtain ⟨c11, c12, f11, f12⟩ := Sk.out.holds (a + i) (by omega)
      obtain ⟨c21, c22, f21, f22⟩ := Sk.out.holds (b + i) (by omega)
      rw [← hx] at c11 c12
      rw [← hy] at c21 c22
      dsimp only at c11 c12 c21 c22
      obtain ⟨u3, g3⟩ := Sk.out.third (a + i) (b + i) (by omega) (by omega) (.int .i64 y1) (.int .i64 y2)
      obtain ⟨u4, g4⟩ := Sk.out.fourth (a + i) (b + i) (by omega) (by omega) (.int .i64 y1) (.int .i64 y2) (.int .i64 x1)
      have S2 : Aside _ := (Sk.out.swap (by omega) (by omega) hx hy).drew
      dsimp only at S2
      clear hx hy
      go_wp2_with fail
      go_region
      clear c11 c12 c21 c22 f11 f12 f21 f22 g3 g4
      generalize ((((wr.setCell ⟨blk, off + (a + i) * 2, none⟩ (.int .i64 y1)).setCell ⟨blk, off + (a + i) * 2 + 1, none⟩ (.int .i64 y2)).setCell ⟨blk, off + (b + i) * 2, none⟩ (.int .i64 x1)).setCell ⟨blk, off + (b + i) * 2 + 1, none⟩ (.int .i64 x2)).drew = w2 at S2 ⊢
      clear bi1 ri1 pi1 ei1 bj1 rj1 pj1 ej1
      go_wp2_with fail
      go_roundg (c - (i + 1))
      case measure => omega
      case rel => exact ⟨i + 1, swp dk (a + i) (b + i), by go_num, by omega, by omega, by rw [size_swp]; exact hsk, S2, (swapLoop_go _ _ _ _ _ hlt).symm.trans HO.out⟩
    · have hltz : ¬ (i : Int) < (c : Int) := by omega
      go_wp2
      go_end0
      exact ⟨rfl, by rw [← HO.out, swapLoop_stop _ _ _ _ _ hlt]; exact Sk.out⟩
end Go.Proofs.YtglgmkikegbchaaGreat
