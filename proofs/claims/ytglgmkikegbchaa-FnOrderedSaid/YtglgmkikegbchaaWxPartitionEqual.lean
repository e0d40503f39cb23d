/- partitionEqual: the text over the keys alone, floats. -/
import Derived.Test.YtglgmkikegbchaaWx0
import Derived.Test.YtglgmkikegbchaaPb
import Derived.Deep.CutBlock
import Derived.Deep.DeepCutAuto
import Derived.Sort.WalkC4
import Derived.Sort.WalkC
namespace Go.Proofs.Ytglgmkikegbchaa
open Go.RowKit Go.Sort
attribute [local go_sem] run_store_float

set_option maxHeartbeats 16000000 in
set_option maxRecDepth 1000000 in
theorem partitionEqual_x (w0 : World) (blk off cap n : Nat) (d : Array Nat) (w : World) (S : St1 eFl w0 blk off d w) (hn : d.size = n) (hsz : n < 4611686018427387904) (a b pv : Nat) (hap : a ≤ pv) (hpb : pv < b) (hb : b ≤ n) :
    Calls Try.prog 125 #[.slice (some ⟨blk, off, none⟩) n cap, .int .i64 a, .int .i64 b, .int .i64 pv] w fun e w' =>
      e = .returned (.int .i64 ((partitionEqual ltFl d a b pv).1 : Nat)) ∧ St1 eFl w0 blk off (partitionEqual ltFl d a b pv).2 w' := by
  obtain ⟨J, rfl⟩ : ∃ J, b = J + 1 := ⟨b - 1, by omega⟩
  obtain ⟨Q, hQ⟩ : ∃ Q, Q = partEqLoop ltFl a (a + 1) J (swp d a pv) := ⟨_, rfl⟩
  rw [show partitionEqual ltFl d a (J + 1) pv = Q from hQ.symm]
  have HQ : Hid (Q = partEqLoop ltFl a (a + 1) J (swp d a pv)) := hQ
  clear hQ
  have S0 : Aside (St1 eFl w0 blk off d w) := S
  clear S
  go_enter Try.func125, Try.ntmps125
  have bi1 : (a : Int) < (n : Int) := by omega
  have bj1 : (pv : Int) < (n : Int) := by omega
  obtain ⟨x, hx⟩ : ∃ x, x = d[a]! := ⟨_, rfl⟩
  obtain ⟨y, hy⟩ : ∃ y, y = d[pv]! := ⟨_, rfl⟩
  have c1 : w.cell? ⟨blk, off + (a), none⟩ = some (.float .f64 x) := by rw [hx]; exact S0.out.cell (by omega)
  have c2 : w.cell? ⟨blk, off + (pv), none⟩ = some (.float .f64 y) := by rw [hy]; exact S0.out.cell (by omega)
  have f1 : w.frozen? ⟨blk, off + (a), none⟩ = false := S0.out.frozen (by omega)
  have f2 : w.frozen? ⟨blk, off + (pv), none⟩ = false := S0.out.frozen (by omega)
  obtain ⟨u2, g2⟩ := S0.out.second (a) (pv) (by omega) (by omega) (.float .f64 y)
  have S1 : Aside _ := (S0.out.swap (by omega) (by omega) hx hy).drew
  clear hx hy
  go_wp2_with fail
  go_region
  clear c1 c2 f1 f2 g2
  generalize ((w.setCell ⟨blk, off + (a), none⟩ (.float .f64 y)).setCell ⟨blk, off + (pv), none⟩ (.float .f64 x)).drew = w1 at S1 ⊢
  clear bi1 bj1
  have hs1 : (swp d a pv).size = n := by rw [size_swp]; exact hn
  generalize swp d a pv = dl at S1 HQ hs1
  clear S0
  go_wp2_with fail
  go_loopg [9, 10] J (fun g vi vj wr => ∃ (k l : Nat) (dl : Array Nat), vi = .int .i64 k ∧ vj = .int .i64 l ∧ a < k ∧ k ≤ l + 1 ∧ l ≤ J ∧ l ≤ g ∧ dl.size = n ∧ Aside (St1 eFl w0 blk off dl wr) ∧ Hid (Q = partEqLoop ltFl a k l dl))
  case atStart => exact ⟨a + 1, J, dl, by go_num, by go_num, by omega, by omega, by omega, by omega, hs1, S1, HQ⟩
  case round =>
    clear S1 HQ hs1 dl
    obtain ⟨k, l, dl, rfl, rfl, hak, hkl, hlJ, hgl, hsl, Sl, HL⟩ := hrel
    go_upto_block 2 with fail
    go_cut [9, 10] (fun vi vj wx => ∃ i : Nat, vi = .int .i64 i ∧ vj = .int .i64 (l : Nat) ∧ k ≤ i ∧ i ≤ l + 1 ∧ Aside (St1 eFl w0 blk off dl wx) ∧ Hid (i = scanUp (fun x => !ltFl dl[a]! x) dl l k))
    case first =>
      go_wp2_with fail
      go_loopg [9] (l + 1 - k) (fun g vi wr => ∃ i : Nat, vi = .int .i64 i ∧ k ≤ i ∧ i ≤ l + 1 ∧ l + 1 - i ≤ g ∧ Aside (St1 eFl w0 blk off dl wr) ∧ Hid (scanUp (fun x => !ltFl dl[a]! x) dl l i = scanUp (fun x => !ltFl dl[a]! x) dl l k))
      case atStart => exact ⟨k, rfl, by omega, by omega, Nat.le_refl _, Sl, rfl⟩
      case round =>
        clear Sl
        obtain ⟨i, rfl, hlv, hvh, hg, Sk, HO⟩ := hrel
        by_cases hlt : i ≤ l
        · have hltz : (i : Int) ≤ (l : Int) := by omega
          have bi2 : (a : Int) < (n : Int) := by omega
          have bj2 : (i : Int) < (n : Int) := by omega
          obtain ⟨x, hx⟩ : ∃ x, x = dl[a]! := ⟨_, rfl⟩
          obtain ⟨y, hy⟩ : ∃ y, y = dl[i]! := ⟨_, rfl⟩
          have c1 : wr.cell? ⟨blk, off + (a), none⟩ = some (.float .f64 x) := by rw [hx]; exact Sk.out.cell (by omega)
          have c2 : wr.cell? ⟨blk, off + (i), none⟩ = some (.float .f64 y) := by rw [hy]; exact Sk.out.cell (by omega)
          have hless : ∀ c W, ltFl x y = c → Calls Try.prog 124 #[.float .f64 x, .float .f64 y] W fun e w' => e = .returned (.bool c) ∧ w' = W := fun c W hc => by rw [← hc]; exact less_x x y W
          obtain ⟨c, hc⟩ : ∃ c, c = ltFl x y := ⟨_, rfl⟩
          have HV : Aside (ltFl dl[a]! dl[i]! = c) := by show ltFl _ _ = _; rw [← hx, ← hy, hc]
          replace hless := fun W => hless c W hc.symm
          clear hx hy hc
          cases c with
          | true =>
            have HV' : Aside _ := HV
            clear HV
            go_wp2_with fail
            go_quiet (first | (go_at_call 124; refine Calls.quiet_of_same (hless _)))
            have S2 : Aside _ := Sk.out.drewN nq
            clear c1 c2 hless
            generalize wr.drewN nq = w2 at S2 ⊢
            clear nq
            clear bi2 bj2
            go_wp2_with fail
            go_meet
            case rel => exact ⟨i, by go_num, by go_num, hlv, hvh, S2, (scanUp_end _ _ _ _ (Or.inr (by show (!_) = _; rw [HV'.out]; rfl))).symm.trans HO.out⟩
          | false =>
            have HV' : Aside _ := HV
            clear HV
            go_wp2_with fail
            go_quiet (first | (go_at_call 124; refine Calls.quiet_of_same (hless _)))
            have S2 : Aside _ := Sk.out.drewN nq
            clear c1 c2 hless
            generalize wr.drewN nq = w2 at S2 ⊢
            clear nq
            clear bi2 bj2
            go_wp2_with fail
            go_roundg (l + 1 - (i + 1))
            case measure => omega
            case rel => exact ⟨i + 1, by go_num, by omega, by omega, Nat.le_refl _, S2, (scanUp_go _ _ _ _ hlt (by show (!_) = _; rw [HV'.out]; rfl)).symm.trans HO.out⟩
        · have hltz : decide ((i : Int) ≤ (l : Int)) = false := by refine decide_eq_false ?_; omega
          go_wp2_with fail
          go_quiet (fail)
          have S2 : Aside _ := Sk.out.drewN nq
          generalize wr.drewN nq = w2 at S2 ⊢
          clear nq
          go_wp2_with fail
          go_meet
          case rel => exact ⟨i, by go_num, by go_num, hlv, hvh, S2, (scanUp_end _ _ _ _ (Or.inl hlt)).symm.trans HO.out⟩
    case rest =>
      clear Sl
      obtain ⟨i3, rfl, rfl, hli3, hhi3, Si3, Hi3⟩ := hcut
      go_upto_block 4 with fail
      go_cut [9, 10] (fun vi vj wx => ∃ j : Nat, vi = .int .i64 (i3 : Nat) ∧ vj = .int .i64 j ∧ j ≤ l ∧ i3 ≤ j + 1 ∧ Aside (St1 eFl w0 blk off dl wx) ∧ Hid (j = scanDown (fun x => ltFl dl[a]! x) dl i3 l))
      case first =>
        go_wp2_with fail
        go_loopg [10] (l) (fun g vj wr => ∃ j : Nat, vj = .int .i64 j ∧ j ≤ l ∧ i3 ≤ j + 1 ∧ j ≤ g ∧ Aside (St1 eFl w0 blk off dl wr) ∧ Hid (scanDown (fun x => ltFl dl[a]! x) dl i3 j = scanDown (fun x => ltFl dl[a]! x) dl i3 l))
        case atStart => exact ⟨l, by go_num, by omega, by omega, Nat.le_refl _, Si3, rfl⟩
        case round =>
          clear Si3
          obtain ⟨j, rfl, hlv, hvh, hg, Sk, HO⟩ := hrel
          by_cases hlt : i3 ≤ j
          · obtain ⟨jp, rfl⟩ : ∃ jp, j = jp + 1 := ⟨j - 1, by omega⟩
            have hltz : (i3 : Int) ≤ (jp : Int) + 1 := by omega
            have bi3 : (a : Int) < (n : Int) := by omega
            have bj3 : (jp : Int) + 1 < (n : Int) := by omega
            have pj3 : (0 : Int) ≤ (jp : Int) + 1 := by omega
            have ej3 : ((jp : Int) + 1).toNat = jp + 1 := by omega
            obtain ⟨x, hx⟩ : ∃ x, x = dl[a]! := ⟨_, rfl⟩
            obtain ⟨y, hy⟩ : ∃ y, y = dl[jp + 1]! := ⟨_, rfl⟩
            have c1 : wr.cell? ⟨blk, off + (a), none⟩ = some (.float .f64 x) := by rw [hx]; exact Sk.out.cell (by omega)
            have c2 : wr.cell? ⟨blk, off + (jp + 1), none⟩ = some (.float .f64 y) := by rw [hy]; exact Sk.out.cell (by omega)
            have hless : ∀ c W, ltFl x y = c → Calls Try.prog 124 #[.float .f64 x, .float .f64 y] W fun e w' => e = .returned (.bool c) ∧ w' = W := fun c W hc => by rw [← hc]; exact less_x x y W
            obtain ⟨c, hc⟩ : ∃ c, c = ltFl x y := ⟨_, rfl⟩
            have HV : Aside (ltFl dl[a]! dl[jp + 1]! = c) := by show ltFl _ _ = _; rw [← hx, ← hy, hc]
            replace hless := fun W => hless c W hc.symm
            clear hx hy hc
            cases c with
            | true =>
              have HV' : Aside _ := HV
              clear HV
              go_wp2_with fail
              go_quiet (first | (go_at_call 124; refine Calls.quiet_of_same (hless _)))
              have S2 : Aside _ := Sk.out.drewN nq
              clear c1 c2 hless
              generalize wr.drewN nq = w2 at S2 ⊢
              clear nq
              clear bi3 bj3 pj3 ej3
              go_wp2_with fail
              go_roundg jp
              case measure => omega
              case rel => exact ⟨jp, by go_num, by omega, by omega, Nat.le_refl _, S2, (scanDown_go _ _ _ _ hlt (by omega) (by exact HV'.out)).symm.trans HO.out⟩
            | false =>
              have HV' : Aside _ := HV
              clear HV
              go_wp2_with fail
              go_quiet (first | (go_at_call 124; refine Calls.quiet_of_same (hless _)))
              have S2 : Aside _ := Sk.out.drewN nq
              clear c1 c2 hless
              generalize wr.drewN nq = w2 at S2 ⊢
              clear nq
              clear bi3 bj3 pj3 ej3
              go_wp2_with fail
              go_meet
              case rel => exact ⟨jp + 1, by go_num, by go_num, hlv, hvh, S2, (scanDown_end _ _ _ _ (Or.inr (by exact HV'.out))).symm.trans HO.out⟩
          · have hltz : decide ((i3 : Int) ≤ (j : Int)) = false := by refine decide_eq_false ?_; omega
            go_wp2_with fail
            go_quiet (fail)
            have S2 : Aside _ := Sk.out.drewN nq
            generalize wr.drewN nq = w2 at S2 ⊢
            clear nq
            go_wp2_with fail
            go_meet
            case rel => exact ⟨j, by go_num, by go_num, hlv, hvh, S2, (scanDown_end _ _ _ _ (Or.inl hlt)).symm.trans HO.out⟩
      case rest =>
        clear Si3
        obtain ⟨j3, rfl, rfl, hlj3, hhj3, Sj3, Hj3⟩ := hcut
        by_cases hgt : j3 < i3
        · have hgtz : (j3 : Int) < (i3 : Int) := by omega
          have hL := HL.out.trans (partEq_break ltFl a k l dl Hi3.out Hj3.out hgt)
          have HF : Hid _ := hL
          clear hL
          go_wp2_with fail
          go_ret
          rw [HF.out]
          exact ⟨rfl, Sj3.out⟩
        · have hgtz : ¬ (j3 : Int) < (i3 : Int) := by omega
          have hij := scans_lt ltFl a _ _ dl (by omega) Hi3.out Hj3.out (by omega)
          have bi4 : (i3 : Int) < (n : Int) := by omega
          have bj4 : (j3 : Int) < (n : Int) := by omega
          obtain ⟨x, hx⟩ : ∃ x, x = dl[i3]! := ⟨_, rfl⟩
          obtain ⟨y, hy⟩ : ∃ y, y = dl[j3]! := ⟨_, rfl⟩
          have c1 : wc.cell? ⟨blk, off + (i3), none⟩ = some (.float .f64 x) := by rw [hx]; exact Sj3.out.cell (by omega)
          have c2 : wc.cell? ⟨blk, off + (j3), none⟩ = some (.float .f64 y) := by rw [hy]; exact Sj3.out.cell (by omega)
          have f1 : wc.frozen? ⟨blk, off + (i3), none⟩ = false := Sj3.out.frozen (by omega)
          have f2 : wc.frozen? ⟨blk, off + (j3), none⟩ = false := Sj3.out.frozen (by omega)
          obtain ⟨u2, g2⟩ := Sj3.out.second (i3) (j3) (by omega) (by omega) (.float .f64 y)
          have S8 : Aside _ := (Sj3.out.swap (by omega) (by omega) hx hy).drew
          clear hx hy
          go_wp2_with fail
          go_region
          clear c1 c2 f1 f2 g2
          generalize ((wc.setCell ⟨blk, off + (i3), none⟩ (.float .f64 y)).setCell ⟨blk, off + (j3), none⟩ (.float .f64 x)).drew = w8 at S8 ⊢
          clear bi4 bj4
          go_wp2_with fail
          go_roundg (j3 - 1)
          case measure => omega
          case rel => exact ⟨i3 + 1, j3 - 1, swp dl i3 j3, by go_num, by go_num, by omega, by omega, by omega, Nat.le_refl _, by rw [size_swp]; exact hsl, S8, HL.out.trans (partEq_go ltFl a k l dl Hi3.out Hj3.out (by omega))⟩
end Go.Proofs.Ytglgmkikegbchaa
