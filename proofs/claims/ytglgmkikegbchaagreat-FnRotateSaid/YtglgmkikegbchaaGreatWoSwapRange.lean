/- swapRange: the text over the keys alone. -/
import Derived.Test.YtglgmkikegbchaaGreatWo0
import Derived.Test.YtglgmkikegbchaaGreatPb
namespace Go.Proofs.YtglgmkikegbchaaGreat
open Go.RowKit Go.Sort

set_option maxHeartbeats 4000000 in
set_option maxRecDepth 1000000 in
theorem swapRange_o (w0 : World) (blk off cap n : Nat) (d : Array Int) (w : World) (S : St1 e64 w0 blk off d w) (hn : d.size = n) (hsz : n < 4611686018427387904) (a b c : Nat) (h1 : a + c ≤ n) (h2 : b + c ≤ n) :
    Calls Tryz.prog 167 #[.slice (some ⟨blk, off, none⟩) n cap, .int .i64 a, .int .i64 b, .int .i64 c] w fun e w' =>
      e = .returned (.tuple #[]) ∧ St1 e64 w0 blk off (swapRange d a b c) w' := by
  have S0 : Aside (St1 e64 w0 blk off d w) := S
  clear S
  go_enter Tryz.func167, Tryz.ntmps167
  go_wp2
  go_loopg [8] c (fun g vi wr => ∃ (i : Nat) (dk : Array Int), vi = .int .i64 i ∧ i ≤ c ∧ c - i ≤ g ∧ dk.size = n ∧ Aside (St1 e64 w0 blk off dk wr) ∧ Hid (swapLoop a b (c - i) i dk = swapRange d a b c))
  case atStart => exact ⟨0, d, rfl, Nat.zero_le _, by omega, hn, S0, rfl⟩
  case round =>
    obtain ⟨i, dk, rfl, hic, hg, hsk, Sk, HO⟩ := hrel
    by_cases hlt : i < c
    · have hltz : (i : Int) < (c : Int) := by omega
      have bi1 : (a : Int) + (i : Int) < (n : Int) := by omega
      have pi1 : (0 : Int) ≤ (a : Int) + (i : Int) := by omega
      have ei1 : ((a : Int) + (i : Int)).toNat = a + i := by omega
      have bj1 : (b : Int) + (i : Int) < (n : Int) := by omega
      have pj1 : (0 : Int) ≤ (b : Int) + (i : Int) := by omega
      have ej1 : ((b : Int) + (i : Int)).toNat = b + i := by omega
      obtain ⟨x, hx⟩ : ∃ x, x = dk[a + i]! := ⟨_, rfl⟩
      obtain ⟨y, hy⟩ : ∃ y, y = dk[b + i]! := ⟨_, rfl⟩
      have c1 : wr.cell? ⟨blk, off + (a + i), none⟩ = some (.int .i64 x) := by rw [hx]; exact Sk.out.cell (by omega)
      have c2 : wr.cell? ⟨blk, off + (b + i), none⟩ = some (.int .i64 y) := by rw [hy]; exact Sk.out.cell (by omega)
      have f1 : wr.frozen? ⟨blk, off + (a + i), none⟩ = false := Sk.out.frozen (by omega)
      have f2 : wr.frozen? ⟨blk, off + (b + i), none⟩ = false := Sk.out.frozen (by omega)
      obtain ⟨u2, g2⟩ := Sk.out.second (a + i) (b + i) (by omega) (by omega) (.int .i64 y)
      have S2 : Aside _ := (Sk.out.swap (by omega) (by omega) hx hy).drew
      clear hx hy
      go_wp2_with fail
      go_region
      clear c1 c2 f1 f2 g2
      generalize ((wr.setCell ⟨blk, off + (a + i), none⟩ (.int .i64 y)).setCell ⟨blk, off + (b + i), none⟩ (.int .i64 x)).drew = w2 at S2 ⊢
      clear bi1 pi1 ei1 bj1 pj1 ej1
      go_wp2_with fail
      go_roundg (c - (i + 1))
      case measure => omega
      case rel => exact ⟨i + 1, swp dk (a + i) (b + i), by go_num, by omega, by omega, by rw [size_swp]; exact hsk, S2, (swapLoop_go _ _ _ _ _ hlt).symm.trans HO.out⟩
    · have hltz : ¬ (i : Int) < (c : Int) := by omega
      go_wp2
      go_end0
      exact ⟨rfl, by rw [← HO.out, swapLoop_stop _ _ _ _ _ hlt]; exact Sk.out⟩
end Go.Proofs.YtglgmkikegbchaaGreat
