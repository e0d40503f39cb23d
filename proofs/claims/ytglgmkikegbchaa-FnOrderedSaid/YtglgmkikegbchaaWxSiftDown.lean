/- siftDown: the text over the keys alone, floats. -/
import Derived.Test.YtglgmkikegbchaaWx0
import Derived.Test.YtglgmkikegbchaaPb
namespace Go.Proofs.Ytglgmkikegbchaa
open Go.RowKit Go.Sort
attribute [local go_sem] run_store_float

set_option maxHeartbeats 4000000 in
set_option maxRecDepth 1000000 in
theorem siftDown_x (w0 : World) (blk off cap n : Nat) (d : Array Nat) (w : World) (S : St1 eFl w0 blk off d w) (hn : d.size = n) (hsz : n < 4611686018427387904) (lo hi first : Nat) (hlo : lo ≤ n) (hfh : first + hi ≤ n) :
    Calls Try.prog 149 #[.slice (some ⟨blk, off, none⟩) n cap, .int .i64 lo, .int .i64 hi, .int .i64 first] w fun e w' =>
      e = .returned (.tuple #[]) ∧ St1 eFl w0 blk off (siftDown ltFl hi first lo d) w' := by
  have S0 : Aside (St1 eFl w0 blk off d w) := S
  clear S
  go_enter Try.func149, Try.ntmps149
  go_wp2
  go_loopg [8] (hi - lo) (fun g vi wr => ∃ (r : Nat) (dk : Array Nat), vi = .int .i64 r ∧ r ≤ n ∧ hi - r ≤ g ∧ dk.size = n ∧ Aside (St1 eFl w0 blk off dk wr) ∧ Hid (siftDown ltFl hi first r dk = siftDown ltFl hi first lo d))
  case atStart => exact ⟨lo, d, rfl, hlo, Nat.le_refl _, hn, S0, rfl⟩
  case round =>
    obtain ⟨r, dk, rfl, hrn, hg, hsk, Sk, HO⟩ := hrel
    by_cases hend : hi ≤ 2 * r + 1
    · have hendz : (hi : Int) ≤ 2 * (r : Int) + 1 := by omega
      go_wp2_with fail
      go_end0
      exact ⟨rfl, by rw [← HO.out, sift_end _ _ _ _ hend]; exact Sk.out⟩
    · have hendz : ¬ (hi : Int) ≤ 2 * (r : Int) + 1 := by omega
      by_cases hrt : 2 * r + 2 < hi
      · have hrtz : 2 * (r : Int) + 1 + 1 < (hi : Int) := by omega
        have bi1 : (first : Int) + (2 * (r : Int) + 1) < (n : Int) := by omega
        have pi1 : (0 : Int) ≤ (first : Int) + (2 * (r : Int) + 1) := by omega
        have ei1 : ((first : Int) + (2 * (r : Int) + 1)).toNat = first + (2 * r + 1) := by omega
        have bj1 : (first : Int) + (2 * (r : Int) + 1) + 1 < (n : Int) := by omega
        have pj1 : (0 : Int) ≤ (first : Int) + (2 * (r : Int) + 1) + 1 := by omega
        have ej1 : ((first : Int) + (2 * (r : Int) + 1) + 1).toNat = first + (2 * r + 1) + 1 := by omega
        obtain ⟨x, hx⟩ : ∃ x, x = dk[first + (2 * r + 1)]! := ⟨_, rfl⟩
        obtain ⟨y, hy⟩ : ∃ y, y = dk[first + (2 * r + 1) + 1]! := ⟨_, rfl⟩
        have c1 : wr.cell? ⟨blk, off + (first + (2 * r + 1)), none⟩ = some (.float .f64 x) := by rw [hx]; exact Sk.out.cell (by omega)
        have c2 : wr.cell? ⟨blk, off + (first + (2 * r + 1) + 1), none⟩ = some (.float .f64 y) := by rw [hy]; exact Sk.out.cell (by omega)
        have hless : ∀ c W, ltFl x y = c → Calls Try.prog 124 #[.float .f64 x, .float .f64 y] W fun e w' => e = .returned (.bool c) ∧ w' = W := fun c W hc => by rw [← hc]; exact less_x x y W
        obtain ⟨c, hc⟩ : ∃ c, c = ltFl x y := ⟨_, rfl⟩
        have HV : Aside (ltFl dk[first + (2 * r + 1)]! dk[first + (2 * r + 1) + 1]! = c) := by show ltFl _ _ = _; rw [← hx, ← hy, hc]
        replace hless := fun W => hless c W hc.symm
        clear hx hy hc
        cases c with
        | true =>
          have HV' : Aside _ := HV
          clear HV
          go_wp2_with fail
          go_quiet (first | (go_at_call 124; refine Calls.quiet_of_same (hless _)))
          have S2 : Aside _ := Sk.out.drewN nq
          clear c1 c2 hless
          generalize wr.drewN nq = w2 at S2 ⊢
          clear nq
          clear bi1 pi1 ei1 bj1 pj1 ej1
          have bi2 : (first : Int) + (r : Int) < (n : Int) := by omega
          have pi2 : (0 : Int) ≤ (first : Int) + (r : Int) := by omega
          have ei2 : ((first : Int) + (r : Int)).toNat = first + r := by omega
          have bj2 : (first : Int) + (2 * (r : Int) + 1 + 1) < (n : Int) := by omega
          have pj2 : (0 : Int) ≤ (first : Int) + (2 * (r : Int) + 1 + 1) := by omega
          have ej2 : ((first : Int) + (2 * (r : Int) + 1 + 1)).toNat = first + (2 * r + 2) := by omega
          obtain ⟨x, hx⟩ : ∃ x, x = dk[first + r]! := ⟨_, rfl⟩
          obtain ⟨y, hy⟩ : ∃ y, y = dk[first + (2 * r + 2)]! := ⟨_, rfl⟩
          have c1 : w2.cell? ⟨blk, off + (first + r), none⟩ = some (.float .f64 x) := by rw [hx]; exact S2.out.cell (by omega)
          have c2 : w2.cell? ⟨blk, off + (first + (2 * r + 2)), none⟩ = some (.float .f64 y) := by rw [hy]; exact S2.out.cell (by omega)
          have hless : ∀ c W, ltFl x y = c → Calls Try.prog 124 #[.float .f64 x, .float .f64 y] W fun e w' => e = .returned (.bool c) ∧ w' = W := fun c W hc => by rw [← hc]; exact less_x x y W
          obtain ⟨c, hc⟩ : ∃ c, c = ltFl x y := ⟨_, rfl⟩
          have HU : Aside (ltFl dk[first + r]! dk[first + (2 * r + 2)]! = c) := by show ltFl _ _ = _; rw [← hx, ← hy, hc]
          replace hless := fun W => hless c W hc.symm
          clear hx hy hc
          cases c with
          | true =>
            have HU' : Aside _ := HU
            clear HU
            go_wp2_with fail
            go_quiet (first | (go_at_call 124; refine Calls.quiet_of_same (hless _)))
            have S5 : Aside _ := S2.out.drewN nq
            clear c1 c2 hless
            generalize w2.drewN nq = w5 at S5 ⊢
            clear nq
            clear bi2 pi2 ei2 bj2 pj2 ej2
            have bi3 : (first : Int) + (r : Int) < (n : Int) := by omega
            have pi3 : (0 : Int) ≤ (first : Int) + (r : Int) := by omega
            have ei3 : ((first : Int) + (r : Int)).toNat = first + r := by omega
            have bj3 : (first : Int) + (2 * (r : Int) + 1 + 1) < (n : Int) := by omega
            have pj3 : (0 : Int) ≤ (first : Int) + (2 * (r : Int) + 1 + 1) := by omega
            have ej3 : ((first : Int) + (2 * (r : Int) + 1 + 1)).toNat = first + (2 * r + 2) := by omega
            obtain ⟨x, hx⟩ : ∃ x, x = dk[first + r]! := ⟨_, rfl⟩
            obtain ⟨y, hy⟩ : ∃ y, y = dk[first + (2 * r + 2)]! := ⟨_, rfl⟩
            have c1 : w5.cell? ⟨blk, off + (first + r), none⟩ = some (.float .f64 x) := by rw [hx]; exact S5.out.cell (by omega)
            have c2 : w5.cell? ⟨blk, off + (first + (2 * r + 2)), none⟩ = some (.float .f64 y) := by rw [hy]; exact S5.out.cell (by omega)
            have f1 : w5.frozen? ⟨blk, off + (first + r), none⟩ = false := S5.out.frozen (by omega)
            have f2 : w5.frozen? ⟨blk, off + (first + (2 * r + 2)), none⟩ = false := S5.out.frozen (by omega)
            obtain ⟨u2, g2⟩ := S5.out.second (first + r) (first + (2 * r + 2)) (by omega) (by omega) (.float .f64 y)
            have S6 : Aside _ := (S5.out.swap (by omega) (by omega) hx hy).drew
            clear hx hy
            go_wp2_with fail
            go_region
            clear c1 c2 f1 f2 g2
            generalize ((w5.setCell ⟨blk, off + (first + r), none⟩ (.float .f64 y)).setCell ⟨blk, off + (first + (2 * r + 2)), none⟩ (.float .f64 x)).drew = w6 at S6 ⊢
            clear bi3 pi3 ei3 bj3 pj3 ej3
            go_wp2_with fail
            go_roundg (hi - (2 * r + 2))
            case measure => omega
            case rel => exact ⟨2 * r + 2, swp dk (first + r) (first + (2 * r + 2)), by go_num, by omega, by omega, by rw [size_swp]; exact hsk, S6, (sift_right_go _ _ _ _ hrt HV'.out HU'.out).symm.trans HO.out⟩
          | false =>
            have HU' : Aside _ := HU
            clear HU
            go_wp2_with fail
            go_quiet (first | (go_at_call 124; refine Calls.quiet_of_same (hless _)))
            have S5 : Aside _ := S2.out.drewN nq
            clear c1 c2 hless
            generalize w2.drewN nq = w5 at S5 ⊢
            clear nq
            clear bi2 pi2 ei2 bj2 pj2 ej2
            go_wp2_with fail
            (try simp only [Exit.inBlock, Exit.then]); refine bodyPost_ret (results_none rfl _ _ _) rfl ?_
            exact ⟨rfl, by rw [← HO.out, sift_right_stop _ _ _ _ hrt HV'.out HU'.out]; exact S5.out⟩
        | false =>
          have HV' : Aside _ := HV
          clear HV
          go_wp2_with fail
          go_quiet (first | (go_at_call 124; refine Calls.quiet_of_same (hless _)))
          have S2 : Aside _ := Sk.out.drewN nq
          clear c1 c2 hless
          generalize wr.drewN nq = w2 at S2 ⊢
          clear nq
          clear bi1 pi1 ei1 bj1 pj1 ej1
          have bi4 : (first : Int) + (r : Int) < (n : Int) := by omega
          have pi4 : (0 : Int) ≤ (first : Int) + (r : Int) := by omega
          have ei4 : ((first : Int) + (r : Int)).toNat = first + r := by omega
          have bj4 : (first : Int) + (2 * (r : Int) + 1) < (n : Int) := by omega
          have pj4 : (0 : Int) ≤ (first : Int) + (2 * (r : Int) + 1) := by omega
          have ej4 : ((first : Int) + (2 * (r : Int) + 1)).toNat = first + (2 * r + 1) := by omega
          obtain ⟨x, hx⟩ : ∃ x, x = dk[first + r]! := ⟨_, rfl⟩
          obtain ⟨y, hy⟩ : ∃ y, y = dk[first + (2 * r + 1)]! := ⟨_, rfl⟩
          have c1 : w2.cell? ⟨blk, off + (first + r), none⟩ = some (.float .f64 x) := by rw [hx]; exact S2.out.cell (by omega)
          have c2 : w2.cell? ⟨blk, off + (first + (2 * r + 1)), none⟩ = some (.float .f64 y) := by rw [hy]; exact S2.out.cell (by omega)
          have hless : ∀ c W, ltFl x y = c → Calls Try.prog 124 #[.float .f64 x, .float .f64 y] W fun e w' => e = .returned (.bool c) ∧ w' = W := fun c W hc => by rw [← hc]; exact less_x x y W
          obtain ⟨c, hc⟩ : ∃ c, c = ltFl x y := ⟨_, rfl⟩
          have HU : Aside (ltFl dk[first + r]! dk[first + (2 * r + 1)]! = c) := by show ltFl _ _ = _; rw [← hx, ← hy, hc]
          replace hless := fun W => hless c W hc.symm
          clear hx hy hc
          cases c with
          | true =>
            have HU' : Aside _ := HU
            clear HU
            go_wp2_with fail
            go_quiet (first | (go_at_call 124; refine Calls.quiet_of_same (hless _)))
            have S5 : Aside _ := S2.out.drewN nq
            clear c1 c2 hless
            generalize w2.drewN nq = w5 at S5 ⊢
            clear nq
            clear bi4 pi4 ei4 bj4 pj4 ej4
            have bi5 : (first : Int) + (r : Int) < (n : Int) := by omega
            have pi5 : (0 : Int) ≤ (first : Int) + (r : Int) := by omega
            have ei5 : ((first : Int) + (r : Int)).toNat = first + r := by omega
            have bj5 : (first : Int) + (2 * (r : Int) + 1) < (n : Int) := by omega
            have pj5 : (0 : Int) ≤ (first : Int) + (2 * (r : Int) + 1) := by omega
            have ej5 : ((first : Int) + (2 * (r : Int) + 1)).toNat = first + (2 * r + 1) := by omega
            obtain ⟨x, hx⟩ : ∃ x, x = dk[first + r]! := ⟨_, rfl⟩
            obtain ⟨y, hy⟩ : ∃ y, y = dk[first + (2 * r + 1)]! := ⟨_, rfl⟩
            have c1 : w5.cell? ⟨blk, off + (first + r), none⟩ = some (.float .f64 x) := by rw [hx]; exact S5.out.cell (by omega)
            have c2 : w5.cell? ⟨blk, off + (first + (2 * r + 1)), none⟩ = some (.float .f64 y) := by rw [hy]; exact S5.out.cell (by omega)
            have f1 : w5.frozen? ⟨blk, off + (first + r), none⟩ = false := S5.out.frozen (by omega)
            have f2 : w5.frozen? ⟨blk, off + (first + (2 * r + 1)), none⟩ = false := S5.out.frozen (by omega)
            obtain ⟨u2, g2⟩ := S5.out.second (first + r) (first + (2 * r + 1)) (by omega) (by omega) (.float .f64 y)
            have S6 : Aside _ := (S5.out.swap (by omega) (by omega) hx hy).drew
            clear hx hy
            go_wp2_with fail
            go_region
            clear c1 c2 f1 f2 g2
            generalize ((w5.setCell ⟨blk, off + (first + r), none⟩ (.float .f64 y)).setCell ⟨blk, off + (first + (2 * r + 1)), none⟩ (.float .f64 x)).drew = w6 at S6 ⊢
            clear bi5 pi5 ei5 bj5 pj5 ej5
            go_wp2_with fail
            go_roundg (hi - (2 * r + 1))
            case measure => omega
            case rel => exact ⟨2 * r + 1, swp dk (first + r) (first + (2 * r + 1)), by go_num, by omega, by omega, by rw [size_swp]; exact hsk, S6, (sift_left_go _ _ _ _ (by omega) (Or.inr HV'.out) HU'.out).symm.trans HO.out⟩
          | false =>
            have HU' : Aside _ := HU
            clear HU
            go_wp2_with fail
            go_quiet (first | (go_at_call 124; refine Calls.quiet_of_same (hless _)))
            have S5 : Aside _ := S2.out.drewN nq
            clear c1 c2 hless
            generalize w2.drewN nq = w5 at S5 ⊢
            clear nq
            clear bi4 pi4 ei4 bj4 pj4 ej4
            go_wp2_with fail
            (try simp only [Exit.inBlock, Exit.then]); refine bodyPost_ret (results_none rfl _ _ _) rfl ?_
            exact ⟨rfl, by rw [← HO.out, sift_left_stop _ _ _ _ (by omega) (Or.inr HV'.out) HU'.out]; exact S5.out⟩
      · have hrtz : decide (2 * (r : Int) + 1 + 1 < (hi : Int)) = false := by refine decide_eq_false ?_; omega
        go_wp2_with fail
        go_quiet (fail)
        have S2 : Aside _ := Sk.out.drewN nq
        generalize wr.drewN nq = w2 at S2 ⊢
        clear nq
        have bi6 : (first : Int) + (r : Int) < (n : Int) := by omega
        have pi6 : (0 : Int) ≤ (first : Int) + (r : Int) := by omega
        have ei6 : ((first : Int) + (r : Int)).toNat = first + r := by omega
        have bj6 : (first : Int) + (2 * (r : Int) + 1) < (n : Int) := by omega
        have pj6 : (0 : Int) ≤ (first : Int) + (2 * (r : Int) + 1) := by omega
        have ej6 : ((first : Int) + (2 * (r : Int) + 1)).toNat = first + (2 * r + 1) := by omega
        obtain ⟨x, hx⟩ : ∃ x, x = dk[first + r]! := ⟨_, rfl⟩
        obtain ⟨y, hy⟩ : ∃ y, y = dk[first + (2 * r + 1)]! := ⟨_, rfl⟩
        have c1 : w2.cell? ⟨blk, off + (first + r), none⟩ = some (.float .f64 x) := by rw [hx]; exact S2.out.cell (by omega)
        have c2 : w2.cell? ⟨blk, off + (first + (2 * r + 1)), none⟩ = some (.float .f64 y) := by rw [hy]; exact S2.out.cell (by omega)
        have hless : ∀ c W, ltFl x y = c → Calls Try.prog 124 #[.float .f64 x, .float .f64 y] W fun e w' => e = .returned (.bool c) ∧ w' = W := fun c W hc => by rw [← hc]; exact less_x x y W
        obtain ⟨c, hc⟩ : ∃ c, c = ltFl x y := ⟨_, rfl⟩
        have HU : Aside (ltFl dk[first + r]! dk[first + (2 * r + 1)]! = c) := by show ltFl _ _ = _; rw [← hx, ← hy, hc]
        replace hless := fun W => hless c W hc.symm
        clear hx hy hc
        cases c with
        | true =>
          have HU' : Aside _ := HU
          clear HU
          go_wp2_with fail
          go_quiet (first | (go_at_call 124; refine Calls.quiet_of_same (hless _)))
          have S5 : Aside _ := S2.out.drewN nq
          clear c1 c2 hless
          generalize w2.drewN nq = w5 at S5 ⊢
          clear nq
          clear bi6 pi6 ei6 bj6 pj6 ej6
          have bi7 : (first : Int) + (r : Int) < (n : Int) := by omega
          have pi7 : (0 : Int) ≤ (first : Int) + (r : Int) := by omega
          have ei7 : ((first : Int) + (r : Int)).toNat = first + r := by omega
          have bj7 : (first : Int) + (2 * (r : Int) + 1) < (n : Int) := by omega
          have pj7 : (0 : Int) ≤ (first : Int) + (2 * (r : Int) + 1) := by omega
          have ej7 : ((first : Int) + (2 * (r : Int) + 1)).toNat = first + (2 * r + 1) := by omega
          obtain ⟨x, hx⟩ : ∃ x, x = dk[first + r]! := ⟨_, rfl⟩
          obtain ⟨y, hy⟩ : ∃ y, y = dk[first + (2 * r + 1)]! := ⟨_, rfl⟩
          have c1 : w5.cell? ⟨blk, off + (first + r), none⟩ = some (.float .f64 x) := by rw [hx]; exact S5.out.cell (by omega)
          have c2 : w5.cell? ⟨blk, off + (first + (2 * r + 1)), none⟩ = some (.float .f64 y) := by rw [hy]; exact S5.out.cell (by omega)
          have f1 : w5.frozen? ⟨blk, off + (first + r), none⟩ = false := S5.out.frozen (by omega)
          have f2 : w5.frozen? ⟨blk, off + (first + (2 * r + 1)), none⟩ = false := S5.out.frozen (by omega)
          obtain ⟨u2, g2⟩ := S5.out.second (first + r) (first + (2 * r + 1)) (by omega) (by omega) (.float .f64 y)
          have S6 : Aside _ := (S5.out.swap (by omega) (by omega) hx hy).drew
          clear hx hy
          go_wp2_with fail
          go_region
          clear c1 c2 f1 f2 g2
          generalize ((w5.setCell ⟨blk, off + (first + r), none⟩ (.float .f64 y)).setCell ⟨blk, off + (first + (2 * r + 1)), none⟩ (.float .f64 x)).drew = w6 at S6 ⊢
          clear bi7 pi7 ei7 bj7 pj7 ej7
          go_wp2_with fail
          go_roundg (hi - (2 * r + 1))
          case measure => omega
          case rel => exact ⟨2 * r + 1, swp dk (first + r) (first + (2 * r + 1)), by go_num, by omega, by omega, by rw [size_swp]; exact hsk, S6, (sift_left_go _ _ _ _ (by omega) (Or.inl hrt) HU'.out).symm.trans HO.out⟩
        | false =>
          have HU' : Aside _ := HU
          clear HU
          go_wp2_with fail
          go_quiet (first | (go_at_call 124; refine Calls.quiet_of_same (hless _)))
          have S5 : Aside _ := S2.out.drewN nq
          clear c1 c2 hless
          generalize w2.drewN nq = w5 at S5 ⊢
          clear nq
          clear bi6 pi6 ei6 bj6 pj6 ej6
          go_wp2_with fail
          (try simp only [Exit.inBlock, Exit.then]); refine bodyPost_ret (results_none rfl _ _ _) rfl ?_
          exact ⟨rfl, by rw [← HO.out, sift_left_stop _ _ _ _ (by omega) (Or.inl hrt) HU'.out]; exact S5.out⟩
end Go.Proofs.Ytglgmkikegbchaa
