/- breakPatterns: the text over the keys alone, floats. -/
import Derived.Test.YtglgmkikegbchaaWx0
import Derived.Test.YtglgmkikegbchaaPb
import Derived.Test.YtglgmkikegbchaaKb
import Derived.Test.YtglgmkikegbchaaPd
import Derived.Test.YtglgmkikegbchaaRnd
namespace Go.Proofs.Ytglgmkikegbchaa
open Go.RowKit Go.Sort
attribute [local go_sem] run_store_float

set_option maxHeartbeats 4000000 in
set_option maxRecDepth 1000000 in
theorem breakPatterns_x (w0 : World) (blk off cap n : Nat) (d : Array Nat) (w : World) (S : St1 eFl w0 blk off d w) (hn : d.size = n) (hsz : n < 4611686018427387904) (a b : Nat) (hab : a ≤ b) (hb : b ≤ n) :
    Calls Try.prog 120 #[.slice (some ⟨blk, off, none⟩) n cap, .int .i64 a, .int .i64 b] w fun e w' =>
      e = .returned (.tuple #[]) ∧ St1 eFl w0 blk off (breakPatterns d a b) w' := by
  obtain ⟨L, hL⟩ : ∃ L, L = b - a := ⟨_, rfl⟩
  have hLz : (b : Int) - (a : Int) = (L : Int) := by omega
  have haL : a + L ≤ n := by omega
  by_cases h8 : L < 8
  · have h8z : ¬ 8 ≤ (L : Int) := by omega
    rw [breakPatterns_few _ _ _ (by omega)]
    clear hL
    have S0 : Aside (St1 eFl w0 blk off d w) := S
    clear S
    go_enter Try.func120, Try.ntmps120
    go_wp2_with fail
    go_end0
    exact ⟨rfl, S0.out⟩
  · have h8z : 8 ≤ (L : Int) := by omega
    obtain ⟨M, hM⟩ : ∃ M, M = 1 <<< bitsLen L := ⟨_, rfl⟩
    have hM1 : L < M := by rw [hM, Nat.one_shiftLeft]; exact lt_two_pow_bitsLen L
    have hM2 : M ≤ 2 * L := by rw [hM, Nat.one_shiftLeft]; exact two_pow_bitsLen_le (by omega)
    have hNP : ∀ w, Calls Try.prog 137 #[.int .i64 (L : Int)] w fun e w' => e = .returned (.int .u64 (M : Int)) ∧ w' = w := by rw [hM]; exact fun w => npot_s L (by omega) w
    obtain ⟨P, hP⟩ : ∃ P, P = a + L / 4 * 2 - 1 := ⟨_, rfl⟩
    have hP1 : (a : Int) + (L : Int) / 4 * 2 - 1 = (P : Int) := by omega
    have hP2 : (a : Int) + (L : Int) / 4 * 2 + 1 = (P : Int) + 2 := by omega
    have hP3 : P + 3 ≤ a + L := by omega
    have hP4 : a ≤ P := by omega
    obtain ⟨R, hR⟩ : ∃ R, R = breakPatterns d a b := ⟨_, rfl⟩
    have HR0 : Hid (bpRest a L M P (3 - 0) 0 (UInt64.ofNat L, d) = R) := by show _ = _; rw [hR, breakPatterns_rest d a b (by omega), ← hL, ← hM, ← hP]
    rw [← hR]
    have hul : (UInt64.ofNat L).toNat = L := by simp; omega
    have S1 : Aside (St1 eFl w0 blk off d (w.alloc (.cells #[.int .u64 (L : Int)] 164))) := S.alloc (.cells #[.int .u64 (L : Int)] 164)
    have Q1 : Aside (Box1 w0 (w.alloc (.cells #[.int .u64 (L : Int)] 164)) blk w.heap.size (.int .u64 ((UInt64.ofNat L).toNat : Int))) := by show Box1 _ _ _ _ _; rw [hul]; exact Box1.new w0 w blk _ _ S.grown.size S.lt
    clear hL hM hP hR hul hab hb
    have S0 : Aside (St1 eFl w0 blk off d w) := S
    clear S
    go_enter Try.func120, Try.ntmps120
    go_wp2_with (first | (go_at_call 137; refine (hNP _).mono ?_; rintro e w' ⟨rfl, rfl⟩))
    clear hNP
    go_loopg [9] 3 (fun g vi wr => ∃ (t : Nat) (r : UInt64) (dk : Array Nat), vi = .int .i64 ((P + t : Nat) : Int) ∧ t ≤ 3 ∧ 3 - t ≤ g ∧ dk.size = n ∧ Aside (St1 eFl w0 blk off dk wr) ∧ Aside (Box1 w0 wr blk w.heap.size (.int .u64 (r.toNat : Int))) ∧ Hid (bpRest a L M P (3 - t) t (r, dk) = R))
    case atStart => exact ⟨0, UInt64.ofNat L, d, by go_num, by omega, by omega, hn, S1, Q1, HR0⟩
    case round =>
      obtain ⟨t, r, dk, rfl, ht, hg, hsk, Sk, Qk, HO⟩ := hrel
      by_cases ht3 : t < 3
      · have ht3z : (P : Int) + (t : Int) ≤ (P : Int) + 2 := by omega
        obtain ⟨Y, hY⟩ : ∃ Y : Nat, Y = r.toNat := ⟨_, rfl⟩
        have lY : Y < 18446744073709551616 := by rw [hY]; exact r.toNat_lt
        obtain ⟨Z, hZ⟩ : ∃ Z : Nat, Z = xorNextN Y := ⟨_, rfl⟩
        have lZ : Z < 18446744073709551616 := by rw [hZ]; exact xorNextN_lt Y lY
        have hZr : Z = (xorNext r).toNat := by rw [hZ, hY, xorNext_toNat]
        obtain ⟨O, hO⟩ : ∃ O : Nat, O = Z &&& (M - 1) := ⟨_, rfl⟩
        have lO : O ≤ M - 1 := by rw [hO]; exact Nat.and_le_right
        have eAnd : bits .and .u64 (Z : Int) ((M : Int) - 1) = (O : Int) := by
          rw [show ((M : Int) - 1) = ((M - 1 : Nat) : Int) by omega, bits_and_u64_nat _ _ lZ (by omega), hO]
        have HN : Hid (Z = (xorNext r).toNat ∧ O = (xorNext r).toNat &&& (M - 1)) := ⟨hZr, by rw [hO, hZr]⟩
        have hNx : Calls Try.prog 138 #[.pointer (some ⟨w.heap.size, 0, none⟩)] wr fun e w' => e = .returned (.int .u64 (Z : Int)) ∧ w' = (wr.setCell ⟨w.heap.size, 0, none⟩ (.int .u64 (Z : Int))).drewN 3 := by rw [hZ]; exact xnext_s _ _ Y lY wr (by rw [hY]; exact Qk.out.cell) Qk.out.frozen
        have S2 : Aside _ := (Sk.out.aside Qk.out (.int .u64 (Z : Int))).drewN 3
        have Q2 : Aside _ := (Qk.out.set (.int .u64 (Z : Int))).drewN 3
        clear hY hZ hZr hO
        by_cases hLO : L ≤ O
        · have hLOz : (L : Int) ≤ (O : Int) := by omega
          obtain ⟨o, ho⟩ : ∃ o, o = O - L := ⟨_, rfl⟩
          have hoz : (O : Int) - (L : Int) = (o : Int) := by omega
          have hoL : o < L := by omega
          have HH : Hid (o = O - L) := ho
          clear ho
          go_upto_region 10 with (first | (go_at_call 138; refine hNx.mono ?_; rintro e w' ⟨rfl, rfl⟩))
          clear hNx eAnd
          generalize (wr.setCell ⟨w.heap.size, 0, none⟩ (.int .u64 (Z : Int))).drewN 3 = w2 at S2 Q2 ⊢
          have bi1 : (P : Int) + (t : Int) < (n : Int) := by omega
          have pi1 : (0 : Int) ≤ (P : Int) + (t : Int) := by omega
          have ei1 : ((P : Int) + (t : Int)).toNat = P + t := by omega
          have bj1 : (a : Int) + (o : Int) < (n : Int) := by omega
          have pj1 : (0 : Int) ≤ (a : Int) + (o : Int) := by omega
          have ej1 : ((a : Int) + (o : Int)).toNat = a + o := by omega
          obtain ⟨x, hx⟩ : ∃ x, x = dk[P + t]! := ⟨_, rfl⟩
          obtain ⟨y, hy⟩ : ∃ y, y = dk[a + o]! := ⟨_, rfl⟩
          have c1 : w2.cell? ⟨blk, off + (P + t), none⟩ = some (.float .f64 x) := by rw [hx]; exact S2.out.cell (by omega)
          have c2 : w2.cell? ⟨blk, off + (a + o), none⟩ = some (.float .f64 y) := by rw [hy]; exact S2.out.cell (by omega)
          have f1 : w2.frozen? ⟨blk, off + (P + t), none⟩ = false := S2.out.frozen (by omega)
          have f2 : w2.frozen? ⟨blk, off + (a + o), none⟩ = false := S2.out.frozen (by omega)
          obtain ⟨u2, g2⟩ := S2.out.second (P + t) (a + o) (by omega) (by omega) (.float .f64 y)
          have S3 : Aside _ := (S2.out.swap (by omega) (by omega) hx hy).drew
          clear hx hy
          have Q3 : Aside _ := Q2.out.grown (grownBy_drew1 (Go.Lib.grownBy_setB (Go.Lib.grownBy_setB (World.grownBy.refl _ _) (off + (P + t)) (.float .f64 y)) (off + (a + o)) (.float .f64 x)))
          go_wp2_with fail
          go_region
          clear c1 c2 f1 f2 g2
          generalize ((w2.setCell ⟨blk, off + (P + t), none⟩ (.float .f64 y)).setCell ⟨blk, off + (a + o), none⟩ (.float .f64 x)).drew = w3 at S3 Q3 ⊢
          clear bi1 pi1 ei1 bj1 pj1 ej1
          go_wp2_with fail
          go_roundg (3 - (t + 1))
          case measure => omega
          case rel => exact ⟨t + 1, xorNext r, swp dk (P + t) (a + o), by go_num, by omega, by omega, by rw [size_swp]; exact hsk, S3, by rw [← HN.out.1]; exact Q3, by show _ = _; rw [← HO.out, bpRest_step a L M P t r dk o ht3 (by rw [← HN.out.2, HH.out, if_pos (by omega)])]⟩
        · have hLOz : ¬ (L : Int) ≤ (O : Int) := by omega
          obtain ⟨o, ho⟩ : ∃ o, o = O := ⟨_, rfl⟩
          have hoL : o < L := by omega
          rw [← ho] at eAnd hLOz
          have HH : Hid (o = O) := ho
          clear ho
          go_upto_region 10 with (first | (go_at_call 138; refine hNx.mono ?_; rintro e w' ⟨rfl, rfl⟩))
          clear hNx eAnd
          generalize (wr.setCell ⟨w.heap.size, 0, none⟩ (.int .u64 (Z : Int))).drewN 3 = w2 at S2 Q2 ⊢
          have bi2 : (P : Int) + (t : Int) < (n : Int) := by omega
          have pi2 : (0 : Int) ≤ (P : Int) + (t : Int) := by omega
          have ei2 : ((P : Int) + (t : Int)).toNat = P + t := by omega
          have bj2 : (a : Int) + (o : Int) < (n : Int) := by omega
          have pj2 : (0 : Int) ≤ (a : Int) + (o : Int) := by omega
          have ej2 : ((a : Int) + (o : Int)).toNat = a + o := by omega
          obtain ⟨x, hx⟩ : ∃ x, x = dk[P + t]! := ⟨_, rfl⟩
          obtain ⟨y, hy⟩ : ∃ y, y = dk[a + o]! := ⟨_, rfl⟩
          have c1 : w2.cell? ⟨blk, off + (P + t), none⟩ = some (.float .f64 x) := by rw [hx]; exact S2.out.cell (by omega)
          have c2 : w2.cell? ⟨blk, off + (a + o), none⟩ = some (.float .f64 y) := by rw [hy]; exact S2.out.cell (by omega)
          have f1 : w2.frozen? ⟨blk, off + (P + t), none⟩ = false := S2.out.frozen (by omega)
          have f2 : w2.frozen? ⟨blk, off + (a + o), none⟩ = false := S2.out.frozen (by omega)
          obtain ⟨u2, g2⟩ := S2.out.second (P + t) (a + o) (by omega) (by omega) (.float .f64 y)
          have S3 : Aside _ := (S2.out.swap (by omega) (by omega) hx hy).drew
          clear hx hy
          have Q3 : Aside _ := Q2.out.grown (grownBy_drew1 (Go.Lib.grownBy_setB (Go.Lib.grownBy_setB (World.grownBy.refl _ _) (off + (P + t)) (.float .f64 y)) (off + (a + o)) (.float .f64 x)))
          go_wp2_with fail
          go_region
          clear c1 c2 f1 f2 g2
          generalize ((w2.setCell ⟨blk, off + (P + t), none⟩ (.float .f64 y)).setCell ⟨blk, off + (a + o), none⟩ (.float .f64 x)).drew = w3 at S3 Q3 ⊢
          clear bi2 pi2 ei2 bj2 pj2 ej2
          go_wp2_with fail
          go_roundg (3 - (t + 1))
          case measure => omega
          case rel => exact ⟨t + 1, xorNext r, swp dk (P + t) (a + o), by go_num, by omega, by omega, by rw [size_swp]; exact hsk, S3, by rw [← HN.out.1]; exact Q3, by show _ = _; rw [← HO.out, bpRest_step a L M P t r dk o ht3 (by rw [← HN.out.2, HH.out, if_neg (by omega)])]⟩
      · have ht3z : ¬ (P : Int) + (t : Int) ≤ (P : Int) + 2 := by omega
        obtain rfl : t = 3 := by omega
        have hB : dk = R := HO.out
        subst hB
        go_wp2_with fail
        go_end0
        exact ⟨rfl, Sk.out⟩
end Go.Proofs.Ytglgmkikegbchaa
