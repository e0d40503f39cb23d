/- choosePivot: the text over the keys alone, floats. -/
import Derived.Test.YtglgmkikegbchaaWx0
import Derived.Test.YtglgmkikegbchaaPb
import Derived.Test.YtglgmkikegbchaaWxMedianAdjacent
import Derived.Test.YtglgmkikegbchaaKb
import Derived.Test.YtglgmkikegbchaaPd
namespace Go.Proofs.Ytglgmkikegbchaa
open Go.RowKit Go.Sort
attribute [local go_sem] run_store_float

set_option maxHeartbeats 4000000 in
set_option maxRecDepth 1000000 in
theorem choosePivot_x (w0 : World) (blk off cap n : Nat) (d : Array Nat) (w : World) (S : St1 eFl w0 blk off d w) (hn : d.size = n) (hsz : n < 4611686018427387904) (a b : Nat) (hab : a ≤ b) (hb : b ≤ n) :
    Calls Try.prog 121 #[.slice (some ⟨blk, off, none⟩) n cap, .int .i64 a, .int .i64 b] w fun e w' =>
      e = .returned (.tuple #[.int .i64 (choosePivot ltFl d a b).1, .int .i64 (hintCode (choosePivot ltFl d a b).2)]) ∧ St1 eFl w0 blk off d w' := by
  obtain ⟨L, hL⟩ : ∃ L, L = b - a := ⟨_, rfl⟩
  have hLz : (b : Int) - (a : Int) = (L : Int) := by omega
  have haL : a + L ≤ n := by omega
  have S1 : Aside (St1 eFl w0 blk off d (w.alloc (.cells #[.int .i64 0] 3))) := S.alloc (.cells #[.int .i64 0] 3)
  have Q1 : Aside (Box1 w0 (w.alloc (.cells #[.int .i64 0] 3)) blk w.heap.size (.int .i64 ((0 : Nat) : Int))) := Box1.new w0 w blk _ _ S.grown.size S.lt
  have HL : Hid (b - a = L) := hL.symm
  clear hL hab hb
  have S0 : Aside (St1 eFl w0 blk off d w) := S
  clear S
  go_enter Try.func121, Try.ntmps121
  by_cases h8 : L < 8
  · have h8z : ¬ 8 ≤ (L : Int) := by omega
    have HR : Hid (rawPivot ltFl d a b = (a + L / 4 * 2, 0)) := by show _ = _; unfold rawPivot; rw [HL.out, if_neg (by omega)]
    have qc : (w.alloc (.cells #[.int .i64 0] 3)).cell? ⟨w.heap.size, 0, none⟩ = some (.int .i64 0) := Q1.out.cell
    go_wp2_with fail
    (try simp only [Exit.inBlock, Exit.then]); refine bodyPost_ret (results_tmp2 rfl _ _ _) rfl ?_
    rw [choosePivot_eq, HR.out]
    dsimp only
    refine ⟨?_, S1.out⟩
    rw [show hintOf 0 = .increasing from rfl]
    simp [hintCode]
  · have h8z : 8 ≤ (L : Int) := by omega
    obtain ⟨q, hq⟩ : ∃ q, q = L / 4 := ⟨_, rfl⟩
    have hq0 : 2 ≤ q := by omega
    have hq4 : 4 * q ≤ L := by omega
    have hqz : (L : Int) / 4 = (q : Int) := by omega
    have HQ : Hid (L / 4 = q) := hq.symm
    clear hq
    by_cases h50 : L < 50
    · have h50z : ¬ 50 ≤ (L : Int) := by omega
      obtain ⟨⟨x1, s1⟩, h1⟩ : ∃ r, r = median ltFl d (a + q * 1) (a + q * 2) (a + q * 3) 0 := ⟨_, rfl⟩
      have hc1 := median_x w0 blk off cap n d _ S1.out hn hsz (a + q * 1) (a + q * 2) (a + q * 3) w.heap.size 0 (by omega) (by omega) (by omega) (by omega) Q1.out
      rw [← h1] at hc1
      dsimp only at hc1
      rw [show ((a + q * 1 : Nat) : Int) = (a : Int) + (q : Int) by omega] at hc1
      rw [show ((a + q * 2 : Nat) : Int) = (a : Int) + (q : Int) * 2 by omega] at hc1
      rw [show ((a + q * 3 : Nat) : Int) = (a : Int) + (q : Int) * 3 by omega] at hc1
      have HR : Hid (rawPivot ltFl d a b = (x1, s1)) := by show _ = _; unfold rawPivot; rw [HL.out, HQ.out, if_pos (by omega), if_neg (by omega)]; exact h1.symm
      clear h1
      go_wp2_with fail
      refine hc1.mono ?_
      rintro e w1 ⟨rfl, S2q, Q2q⟩
      have S2 : Aside _ := S2q
      have Q2 : Aside _ := Q2q
      clear hc1 S2q Q2q
      have qc := Q2.out.cell
      by_cases hs0 : s1 = 0
      · have hs0z : (s1 : Int) = 0 := by omega
        go_wp2_with fail
        (try simp only [Exit.inBlock, Exit.then]); refine bodyPost_ret (results_tmp2 rfl _ _ _) rfl ?_
        rw [choosePivot_eq, HR.out]
        dsimp only
        rw [show hintOf s1 = .increasing from by unfold hintOf; rw [if_pos hs0]]
        exact ⟨rfl, S2.out⟩
      · have hs0z : ¬ (s1 : Int) = 0 := by omega
        by_cases hs12 : s1 = 12
        · have hs12z : (s1 : Int) = 12 := by omega
          go_wp2_with fail
          (try simp only [Exit.inBlock, Exit.then]); refine bodyPost_ret (results_tmp2 rfl _ _ _) rfl ?_
          rw [choosePivot_eq, HR.out]
          dsimp only
          rw [show hintOf s1 = .decreasing from by unfold hintOf; rw [if_neg hs0, if_pos hs12]]
          exact ⟨rfl, S2.out⟩
        · have hs12z : ¬ (s1 : Int) = 12 := by omega
          go_wp2_with fail
          (try simp only [Exit.inBlock, Exit.then]); refine bodyPost_ret (results_tmp2 rfl _ _ _) rfl ?_
          rw [choosePivot_eq, HR.out]
          dsimp only
          rw [show hintOf s1 = .unknown from by unfold hintOf; rw [if_neg hs0, if_neg hs12]]
          exact ⟨rfl, S2.out⟩
    · have h50z : 50 ≤ (L : Int) := by omega
      obtain ⟨⟨x1, s1⟩, h1⟩ : ∃ r, r = medianAdjacent ltFl d (a + q * 1) 0 := ⟨_, rfl⟩
      have l1 := medianAdjacent_in ltFl d 0 (show a + q * 1 + 1 < n by omega)
      have t1 := medianAdjacent_count ltFl d (a + q * 1) 0
      have hc1 := medianAdjacent_x w0 blk off cap n d _ S1.out hn hsz (a + q * 1) w.heap.size 0 (by omega) (by omega) (by omega) Q1.out
      rw [← h1] at l1 t1 hc1
      dsimp only at l1 t1 hc1
      have E1 : Hid (medianAdjacent ltFl d (a + q * 1) 0 = (x1, s1)) := h1.symm
      clear h1
      rw [show ((a + q * 1 : Nat) : Int) = (a : Int) + (q : Int) by omega] at hc1
      go_wp2_with fail
      refine hc1.mono ?_
      rintro e w1 ⟨rfl, SS1q, QQ1q⟩
      have SS1 : Aside _ := SS1q
      have QQ1 : Aside _ := QQ1q
      clear hc1 SS1q QQ1q
      obtain ⟨⟨x2, s2⟩, h2⟩ : ∃ r, r = medianAdjacent ltFl d (a + q * 2) s1 := ⟨_, rfl⟩
      have l2 := medianAdjacent_in ltFl d s1 (show a + q * 2 + 1 < n by omega)
      have t2 := medianAdjacent_count ltFl d (a + q * 2) s1
      have hc2 := medianAdjacent_x w0 blk off cap n d w1 SS1.out hn hsz (a + q * 2) w.heap.size s1 (by omega) (by omega) (by omega) QQ1.out
      rw [← h2] at l2 t2 hc2
      dsimp only at l2 t2 hc2
      have E2 : Hid (medianAdjacent ltFl d (a + q * 2) s1 = (x2, s2)) := h2.symm
      clear h2
      rw [show ((a + q * 2 : Nat) : Int) = (a : Int) + (q : Int) * 2 by omega] at hc2
      go_wp2_with fail
      refine hc2.mono ?_
      rintro e w2 ⟨rfl, SS2q, QQ2q⟩
      have SS2 : Aside _ := SS2q
      have QQ2 : Aside _ := QQ2q
      clear hc2 SS2q QQ2q
      obtain ⟨⟨x3, s3⟩, h3⟩ : ∃ r, r = medianAdjacent ltFl d (a + q * 3) s2 := ⟨_, rfl⟩
      have l3 := medianAdjacent_in ltFl d s2 (show a + q * 3 + 1 < n by omega)
      have t3 := medianAdjacent_count ltFl d (a + q * 3) s2
      have hc3 := medianAdjacent_x w0 blk off cap n d w2 SS2.out hn hsz (a + q * 3) w.heap.size s2 (by omega) (by omega) (by omega) QQ2.out
      rw [← h3] at l3 t3 hc3
      dsimp only at l3 t3 hc3
      have E3 : Hid (medianAdjacent ltFl d (a + q * 3) s2 = (x3, s3)) := h3.symm
      clear h3
      rw [show ((a + q * 3 : Nat) : Int) = (a : Int) + (q : Int) * 3 by omega] at hc3
      go_wp2_with fail
      refine hc3.mono ?_
      rintro e w3 ⟨rfl, SS3q, QQ3q⟩
      have SS3 : Aside _ := SS3q
      have QQ3 : Aside _ := QQ3q
      clear hc3 SS3q QQ3q
      obtain ⟨⟨x4, s4⟩, h4⟩ : ∃ r, r = median ltFl d x1 x2 x3 s3 := ⟨_, rfl⟩
      have hc4 := median_x w0 blk off cap n d w3 SS3.out hn hsz x1 x2 x3 w.heap.size s3 l1 l2 l3 (by omega) QQ3.out
      rw [← h4] at hc4
      dsimp only at hc4
      have HR : Hid (rawPivot ltFl d a b = (x4, s4)) := by show _ = _; unfold rawPivot; rw [HL.out, HQ.out, if_pos (by omega), if_pos (by omega), E1.out, E2.out, E3.out]; exact h4.symm
      clear h4
      go_wp2_with fail
      refine hc4.mono ?_
      rintro e w4 ⟨rfl, SS4q, QQ4q⟩
      have SS4 : Aside _ := SS4q
      have QQ4 : Aside _ := QQ4q
      clear hc4 SS4q QQ4q
      have qc := QQ4.out.cell
      by_cases hs0 : s4 = 0
      · have hs0z : (s4 : Int) = 0 := by omega
        go_wp2_with fail
        (try simp only [Exit.inBlock, Exit.then]); refine bodyPost_ret (results_tmp2 rfl _ _ _) rfl ?_
        rw [choosePivot_eq, HR.out]
        dsimp only
        rw [show hintOf s4 = .increasing from by unfold hintOf; rw [if_pos hs0]]
        exact ⟨rfl, SS4.out⟩
      · have hs0z : ¬ (s4 : Int) = 0 := by omega
        by_cases hs12 : s4 = 12
        · have hs12z : (s4 : Int) = 12 := by omega
          go_wp2_with fail
          (try simp only [Exit.inBlock, Exit.then]); refine bodyPost_ret (results_tmp2 rfl _ _ _) rfl ?_
          rw [choosePivot_eq, HR.out]
          dsimp only
          rw [show hintOf s4 = .decreasing from by unfold hintOf; rw [if_neg hs0, if_pos hs12]]
          exact ⟨rfl, SS4.out⟩
        · have hs12z : ¬ (s4 : Int) = 12 := by omega
          go_wp2_with fail
          (try simp only [Exit.inBlock, Exit.then]); refine bodyPost_ret (results_tmp2 rfl _ _ _) rfl ?_
          rw [choosePivot_eq, HR.out]
          dsimp only
          rw [show hintOf s4 = .unknown from by unfold hintOf; rw [if_neg hs0, if_neg hs12]]
          exact ⟨rfl, SS4.out⟩
end Go.Proofs.Ytglgmkikegbchaa
