/- partition: the text over the keys alone. -/
import Derived.Test.YtglgmkikegbchaaGreatWo0
import Derived.Test.YtglgmkikegbchaaGreatPb
import Derived.Deep.CutBlock
import Derived.Deep.DeepCutAuto
import Derived.Sort.WalkC4
import Derived.Sort.WalkC
namespace Go.Proofs.YtglgmkikegbchaaGreat
open Go.RowKit Go.Sort

set_option maxHeartbeats 16000000 in
set_option maxRecDepth 1000000 in
theorem partition_o (w0 : World) (blk off cap n : Nat) (d : Array Int) (w : World) (S : St1 e64 w0 blk off d w) (hn : d.size = n) (hsz : n < 4611686018427387904) (a b pv : Nat) (hap : a ≤ pv) (hpb : pv < b) (hb : b ≤ n) :
    Calls Tryz.prog 158 #[.slice (some ⟨blk, off, none⟩) n cap, .int .i64 a, .int .i64 b, .int .i64 pv] w fun e w' =>
      e = .returned (.tuple #[.int .i64 ((partition ltInt d a b pv).1 : Nat), .bool (partition ltInt d a b pv).2.1]) ∧ St1 e64 w0 blk off (partition ltInt d a b pv).2.2 w' := by
  obtain ⟨J, rfl⟩ : ∃ J, b = J + 1 := ⟨b - 1, by omega⟩
  obtain ⟨R, hR⟩ : ∃ R, R = partition ltInt d a (J + 1) pv := ⟨_, rfl⟩
  rw [← hR]
  have HR : Aside _ := hR
  clear hR
  have S0 : Aside (St1 e64 w0 blk off d w) := S
  clear S
  go_enter Tryz.func158, Tryz.ntmps158
  have bi1 : (a : Int) < (n : Int) := by omega
  have bj1 : (pv : Int) < (n : Int) := by omega
  obtain ⟨x, hx⟩ : ∃ x, x = d[a]! := ⟨_, rfl⟩
  obtain ⟨y, hy⟩ : ∃ y, y = d[pv]! := ⟨_, rfl⟩
  have c1 : w.cell? ⟨blk, off + (a), none⟩ = some (.int .i64 x) := by rw [hx]; exact S0.out.cell (by omega)
  have c2 : w.cell? ⟨blk, off + (pv), none⟩ = some (.int .i64 y) := by rw [hy]; exact S0.out.cell (by omega)
  have f1 : w.frozen? ⟨blk, off + (a), none⟩ = false := S0.out.frozen (by omega)
  have f2 : w.frozen? ⟨blk, off + (pv), none⟩ = false := S0.out.frozen (by omega)
  obtain ⟨u2, g2⟩ := S0.out.second (a) (pv) (by omega) (by omega) (.int .i64 y)
  have S1 : Aside _ := (S0.out.swap (by omega) (by omega) hx hy).drew
  clear hx hy
  go_wp2_with fail
  go_region
  clear c1 c2 f1 f2 g2
  generalize ((w.setCell ⟨blk, off + (a), none⟩ (.int .i64 y)).setCell ⟨blk, off + (pv), none⟩ (.int .i64 x)).drew = w1 at S1 ⊢
  clear bi1 bj1
  obtain ⟨dk, hdk⟩ : ∃ dk, dk = swp d a pv := ⟨_, rfl⟩
  rw [← hdk] at S1
  have hsk : dk.size = n := by rw [hdk, size_swp]; exact hn
  have HDK : Aside (dk = swp d a pv) := hdk
  clear hdk S0
  go_upto_block 0 with fail
  go_cut [10, 11] (fun vi vj wx => ∃ i : Nat, vi = .int .i64 i ∧ vj = .int .i64 (J : Nat) ∧ (a + 1) ≤ i ∧ i ≤ J + 1 ∧ Aside (St1 e64 w0 blk off dk wx) ∧ Hid (i = scanUp (fun x => ltInt x dk[a]!) dk J (a + 1)))
  case first =>
    go_wp2_with fail
    go_loopg [10] (J + 1 - (a + 1)) (fun g vi wr => ∃ i : Nat, vi = .int .i64 i ∧ (a + 1) ≤ i ∧ i ≤ J + 1 ∧ J + 1 - i ≤ g ∧ Aside (St1 e64 w0 blk off dk wr) ∧ Hid (scanUp (fun x => ltInt x dk[a]!) dk J i = scanUp (fun x => ltInt x dk[a]!) dk J (a + 1)))
    case atStart => exact ⟨(a + 1), by go_num, by omega, by omega, Nat.le_refl _, S1, rfl⟩
    case round =>
      clear S1
      obtain ⟨i, rfl, hlv, hvh, hg, Sk, HO⟩ := hrel
      by_cases hlt : i ≤ J
      · have hltz : (i : Int) ≤ (J : Int) := by omega
        have bi2 : (i : Int) < (n : Int) := by omega
        have bj2 : (a : Int) < (n : Int) := by omega
        obtain ⟨x, hx⟩ : ∃ x, x = dk[i]! := ⟨_, rfl⟩
        obtain ⟨y, hy⟩ : ∃ y, y = dk[a]! := ⟨_, rfl⟩
        have c1 : wr.cell? ⟨blk, off + (i), none⟩ = some (.int .i64 x) := by rw [hx]; exact Sk.out.cell (by omega)
        have c2 : wr.cell? ⟨blk, off + (a), none⟩ = some (.int .i64 y) := by rw [hy]; exact Sk.out.cell (by omega)
        have hless : ∀ c W, ltInt x y = c → Calls Tryz.prog 178 #[.int .i64 x, .int .i64 y] W fun e w' => e = .returned (.bool c) ∧ w' = W := fun c W hc => by rw [← hc]; exact less_o x y W
        obtain ⟨c, hc⟩ : ∃ c, c = ltInt x y := ⟨_, rfl⟩
        have HV : Aside (ltInt dk[i]! dk[a]! = c) := by show ltInt _ _ = _; rw [← hx, ← hy, hc]
        replace hless := fun W => hless c W hc.symm
        clear hx hy hc
        cases c with
        | true =>
          have HV' : Aside _ := HV
          clear HV
          go_wp2_with fail
          go_quiet (first | (go_at_call 178; refine Calls.quiet_of_same (hless _)))
          have S2 : Aside _ := Sk.out.drewN nq
          clear c1 c2 hless
          generalize wr.drewN nq = w2 at S2 ⊢
          clear nq
          clear bi2 bj2
          go_wp2_with fail
          go_roundg (J + 1 - (i + 1))
          case measure => omega
          case rel => exact ⟨i + 1, by go_num, by omega, by omega, Nat.le_refl _, S2, (scanUp_go _ _ _ _ hlt (by exact HV'.out)).symm.trans HO.out⟩
        | false =>
          have HV' : Aside _ := HV
          clear HV
          go_wp2_with fail
          go_quiet (first | (go_at_call 178; refine Calls.quiet_of_same (hless _)))
          have S2 : Aside _ := Sk.out.drewN nq
          clear c1 c2 hless
          generalize wr.drewN nq = w2 at S2 ⊢
          clear nq
          clear bi2 bj2
          go_wp2_with fail
          go_meet
          case rel => exact ⟨i, by go_num, by go_num, hlv, hvh, S2, (scanUp_end _ _ _ _ (Or.inr (by exact HV'.out))).symm.trans HO.out⟩
      · have hltz : decide ((i : Int) ≤ (J : Int)) = false := by refine decide_eq_false ?_; omega
        go_wp2_with fail
        go_quiet (fail)
        have S2 : Aside _ := Sk.out.drewN nq
        generalize wr.drewN nq = w2 at S2 ⊢
        clear nq
        go_wp2_with fail
        go_meet
        case rel => exact ⟨i, by go_num, by go_num, hlv, hvh, S2, (scanUp_end _ _ _ _ (Or.inl hlt)).symm.trans HO.out⟩
  case rest =>
    clear S1
    obtain ⟨i1, rfl, rfl, hli1, hhi1, Si1, Hi1⟩ := hcut
    go_upto_block 2 with fail
    go_cut [10, 11] (fun vi vj wx => ∃ j : Nat, vi = .int .i64 (i1 : Nat) ∧ vj = .int .i64 j ∧ j ≤ J ∧ i1 ≤ j + 1 ∧ Aside (St1 e64 w0 blk off dk wx) ∧ Hid (j = scanDown (fun x => !ltInt x dk[a]!) dk i1 J))
    case first =>
      go_wp2_with fail
      go_loopg [11] (J) (fun g vj wr => ∃ j : Nat, vj = .int .i64 j ∧ j ≤ J ∧ i1 ≤ j + 1 ∧ j ≤ g ∧ Aside (St1 e64 w0 blk off dk wr) ∧ Hid (scanDown (fun x => !ltInt x dk[a]!) dk i1 j = scanDown (fun x => !ltInt x dk[a]!) dk i1 J))
      case atStart => exact ⟨J, by go_num, by omega, by omega, Nat.le_refl _, Si1, rfl⟩
      case round =>
        clear Si1
        obtain ⟨j, rfl, hlv, hvh, hg, Sk, HO⟩ := hrel
        by_cases hlt : i1 ≤ j
        · obtain ⟨jp, rfl⟩ : ∃ jp, j = jp + 1 := ⟨j - 1, by omega⟩
          have hltz : (i1 : Int) ≤ (jp : Int) + 1 := by omega
          have bi3 : (jp : Int) + 1 < (n : Int) := by omega
          have pi3 : (0 : Int) ≤ (jp : Int) + 1 := by omega
          have ei3 : ((jp : Int) + 1).toNat = jp + 1 := by omega
          have bj3 : (a : Int) < (n : Int) := by omega
          obtain ⟨x, hx⟩ : ∃ x, x = dk[jp + 1]! := ⟨_, rfl⟩
          obtain ⟨y, hy⟩ : ∃ y, y = dk[a]! := ⟨_, rfl⟩
          have c1 : wr.cell? ⟨blk, off + (jp + 1), none⟩ = some (.int .i64 x) := by rw [hx]; exact Sk.out.cell (by omega)
          have c2 : wr.cell? ⟨blk, off + (a), none⟩ = some (.int .i64 y) := by rw [hy]; exact Sk.out.cell (by omega)
          have hless : ∀ c W, ltInt x y = c → Calls Tryz.prog 178 #[.int .i64 x, .int .i64 y] W fun e w' => e = .returned (.bool c) ∧ w' = W := fun c W hc => by rw [← hc]; exact less_o x y W
          obtain ⟨c, hc⟩ : ∃ c, c = ltInt x y := ⟨_, rfl⟩
          have HV : Aside (ltInt dk[jp + 1]! dk[a]! = c) := by show ltInt _ _ = _; rw [← hx, ← hy, hc]
          replace hless := fun W => hless c W hc.symm
          clear hx hy hc
          cases c with
          | true =>
            have HV' : Aside _ := HV
            clear HV
            go_wp2_with fail
            go_quiet (first | (go_at_call 178; refine Calls.quiet_of_same (hless _)))
            have S2 : Aside _ := Sk.out.drewN nq
            clear c1 c2 hless
            generalize wr.drewN nq = w2 at S2 ⊢
            clear nq
            clear bi3 pi3 ei3 bj3
            go_wp2_with fail
            go_meet
            case rel => exact ⟨jp + 1, by go_num, by go_num, hlv, hvh, S2, (scanDown_end _ _ _ _ (Or.inr (by show (!_) = _; rw [HV'.out]; rfl))).symm.trans HO.out⟩
          | false =>
            have HV' : Aside _ := HV
            clear HV
            go_wp2_with fail
            go_quiet (first | (go_at_call 178; refine Calls.quiet_of_same (hless _)))
            have S2 : Aside _ := Sk.out.drewN nq
            clear c1 c2 hless
            generalize wr.drewN nq = w2 at S2 ⊢
            clear nq
            clear bi3 pi3 ei3 bj3
            go_wp2_with fail
            go_roundg jp
            case measure => omega
            case rel => exact ⟨jp, by go_num, by omega, by omega, Nat.le_refl _, S2, (scanDown_go _ _ _ _ hlt (by omega) (by show (!_) = _; rw [HV'.out]; rfl)).symm.trans HO.out⟩
        · have hltz : decide ((i1 : Int) ≤ (j : Int)) = false := by refine decide_eq_false ?_; omega
          go_wp2_with fail
          go_quiet (fail)
          have S2 : Aside _ := Sk.out.drewN nq
          generalize wr.drewN nq = w2 at S2 ⊢
          clear nq
          go_wp2_with fail
          go_meet
          case rel => exact ⟨j, by go_num, by go_num, hlv, hvh, S2, (scanDown_end _ _ _ _ (Or.inl hlt)).symm.trans HO.out⟩
    case rest =>
      clear Si1
      obtain ⟨j1, rfl, rfl, hlj1, hhj1, Sj1, Hj1⟩ := hcut
      by_cases hgt : j1 < i1
      · have hgtz : (j1 : Int) < (i1 : Int) := by omega
        have bi4 : (j1 : Int) < (n : Int) := by omega
        have bj4 : (a : Int) < (n : Int) := by omega
        obtain ⟨x, hx⟩ : ∃ x, x = dk[j1]! := ⟨_, rfl⟩
        obtain ⟨y, hy⟩ : ∃ y, y = dk[a]! := ⟨_, rfl⟩
        have c1 : wc.cell? ⟨blk, off + (j1), none⟩ = some (.int .i64 x) := by rw [hx]; exact Sj1.out.cell (by omega)
        have c2 : wc.cell? ⟨blk, off + (a), none⟩ = some (.int .i64 y) := by rw [hy]; exact Sj1.out.cell (by omega)
        have f1 : wc.frozen? ⟨blk, off + (j1), none⟩ = false := Sj1.out.frozen (by omega)
        have f2 : wc.frozen? ⟨blk, off + (a), none⟩ = false := Sj1.out.frozen (by omega)
        obtain ⟨u2, g2⟩ := Sj1.out.second (j1) (a) (by omega) (by omega) (.int .i64 y)
        have S7 : Aside _ := (Sj1.out.swap (by omega) (by omega) hx hy).drew
        clear hx hy
        go_wp2_with fail
        go_region
        clear c1 c2 f1 f2 g2
        generalize ((wc.setCell ⟨blk, off + (j1), none⟩ (.int .i64 y)).setCell ⟨blk, off + (a), none⟩ (.int .i64 x)).drew = w7 at S7 ⊢
        clear bi4 bj4
        go_wp2_with fail
        (try simp only [Exit.inBlock, Exit.then]); refine bodyPost_ret (results_tmp2 rfl _ _ _) rfl ?_
        rw [HR.out, part_first_break ltInt d a (J + 1) pv rfl rfl HDK.out Hi1.out Hj1.out hgt]
        exact ⟨rfl, S7.out⟩
      · have hgtz : ¬ (j1 : Int) < (i1 : Int) := by omega
        have hij := part_scans_lt ltInt a _ _ dk (by omega) Hi1.out Hj1.out (by omega)
        have bi5 : (i1 : Int) < (n : Int) := by omega
        have bj5 : (j1 : Int) < (n : Int) := by omega
        obtain ⟨x, hx⟩ : ∃ x, x = dk[i1]! := ⟨_, rfl⟩
        obtain ⟨y, hy⟩ : ∃ y, y = dk[j1]! := ⟨_, rfl⟩
        have c1 : wc.cell? ⟨blk, off + (i1), none⟩ = some (.int .i64 x) := by rw [hx]; exact Sj1.out.cell (by omega)
        have c2 : wc.cell? ⟨blk, off + (j1), none⟩ = some (.int .i64 y) := by rw [hy]; exact Sj1.out.cell (by omega)
        have f1 : wc.frozen? ⟨blk, off + (i1), none⟩ = false := Sj1.out.frozen (by omega)
        have f2 : wc.frozen? ⟨blk, off + (j1), none⟩ = false := Sj1.out.frozen (by omega)
        obtain ⟨u2, g2⟩ := Sj1.out.second (i1) (j1) (by omega) (by omega) (.int .i64 y)
        have S8 : Aside _ := (Sj1.out.swap (by omega) (by omega) hx hy).drew
        clear hx hy
        go_wp2_with fail
        go_region
        clear c1 c2 f1 f2 g2
        generalize ((wc.setCell ⟨blk, off + (i1), none⟩ (.int .i64 y)).setCell ⟨blk, off + (j1), none⟩ (.int .i64 x)).drew = w8 at S8 ⊢
        clear bi5 bj5
        obtain ⟨Q, hQ⟩ : ∃ Q, Q = partLoop ltInt a (i1 + 1) (j1 - 1) (swp dk i1 j1) := ⟨_, rfl⟩
        have HP : Hid (R = (Q.1, false, swp Q.2 Q.1 a)) := by show _ = _; rw [HR.out, hQ]; exact part_first_go ltInt d a (J + 1) pv rfl rfl HDK.out Hi1.out Hj1.out (by omega)
        have HQ : Hid (Q = partLoop ltInt a (i1 + 1) (j1 - 1) (swp dk i1 j1)) := hQ
        have hs8 : (swp dk i1 j1).size = n := by rw [size_swp]; exact hsk
        clear hQ HR HDK Hi1 Hj1 Sj1 hgtz
        generalize swp dk i1 j1 = dl at S8 HQ hs8
        go_wp2_with fail
        go_loopg [10, 11] J (fun g vi vj wr => ∃ (k l : Nat) (dl : Array Int), vi = .int .i64 k ∧ vj = .int .i64 l ∧ a < k ∧ k ≤ l + 1 ∧ l ≤ J ∧ l ≤ g ∧ dl.size = n ∧ Aside (St1 e64 w0 blk off dl wr) ∧ Hid (Q = partLoop ltInt a k l dl))
        case atStart => exact ⟨i1 + 1, j1 - 1, dl, by go_num, by go_num, by omega, by omega, by omega, by omega, hs8, S8, HQ⟩
        case round =>
          clear S8 HQ hs8 dl
          obtain ⟨k, l, dl, rfl, rfl, hak, hkl, hlJ, hgl, hsl, Sl, HL⟩ := hrel
          go_upto_block 6 with fail
          go_cut [10, 11] (fun vi vj wx => ∃ i : Nat, vi = .int .i64 i ∧ vj = .int .i64 (l : Nat) ∧ k ≤ i ∧ i ≤ l + 1 ∧ Aside (St1 e64 w0 blk off dl wx) ∧ Hid (i = scanUp (fun x => ltInt x dl[a]!) dl l k))
          case first =>
            go_wp2_with fail
            go_loopg [10] (l + 1 - k) (fun g vi wr => ∃ i : Nat, vi = .int .i64 i ∧ k ≤ i ∧ i ≤ l + 1 ∧ l + 1 - i ≤ g ∧ Aside (St1 e64 w0 blk off dl wr) ∧ Hid (scanUp (fun x => ltInt x dl[a]!) dl l i = scanUp (fun x => ltInt x dl[a]!) dl l k))
            case atStart => exact ⟨k, rfl, by omega, by omega, Nat.le_refl _, Sl, rfl⟩
            case round =>
              clear Sl
              obtain ⟨i, rfl, hlv, hvh, hg, Sk, HO⟩ := hrel
              by_cases hlt : i ≤ l
              · have hltz : (i : Int) ≤ (l : Int) := by omega
                have bi6 : (i : Int) < (n : Int) := by omega
                have bj6 : (a : Int) < (n : Int) := by omega
                obtain ⟨x, hx⟩ : ∃ x, x = dl[i]! := ⟨_, rfl⟩
                obtain ⟨y, hy⟩ : ∃ y, y = dl[a]! := ⟨_, rfl⟩
                have c1 : wr.cell? ⟨blk, off + (i), none⟩ = some (.int .i64 x) := by rw [hx]; exact Sk.out.cell (by omega)
                have c2 : wr.cell? ⟨blk, off + (a), none⟩ = some (.int .i64 y) := by rw [hy]; exact Sk.out.cell (by omega)
                have hless : ∀ c W, ltInt x y = c → Calls Tryz.prog 178 #[.int .i64 x, .int .i64 y] W fun e w' => e = .returned (.bool c) ∧ w' = W := fun c W hc => by rw [← hc]; exact less_o x y W
                obtain ⟨c, hc⟩ : ∃ c, c = ltInt x y := ⟨_, rfl⟩
                have HV : Aside (ltInt dl[i]! dl[a]! = c) := by show ltInt _ _ = _; rw [← hx, ← hy, hc]
                replace hless := fun W => hless c W hc.symm
                clear hx hy hc
                cases c with
                | true =>
                  have HV' : Aside _ := HV
                  clear HV
                  go_wp2_with fail
                  go_quiet (first | (go_at_call 178; refine Calls.quiet_of_same (hless _)))
                  have S2 : Aside _ := Sk.out.drewN nq
                  clear c1 c2 hless
                  generalize wr.drewN nq = w2 at S2 ⊢
                  clear nq
                  clear bi6 bj6
                  go_wp2_with fail
                  go_roundg (l + 1 - (i + 1))
                  case measure => omega
                  case rel => exact ⟨i + 1, by go_num, by omega, by omega, Nat.le_refl _, S2, (scanUp_go _ _ _ _ hlt (by exact HV'.out)).symm.trans HO.out⟩
                | false =>
                  have HV' : Aside _ := HV
                  clear HV
                  go_wp2_with fail
                  go_quiet (first | (go_at_call 178; refine Calls.quiet_of_same (hless _)))
                  have S2 : Aside _ := Sk.out.drewN nq
                  clear c1 c2 hless
                  generalize wr.drewN nq = w2 at S2 ⊢
                  clear nq
                  clear bi6 bj6
                  go_wp2_with fail
                  go_meet
                  case rel => exact ⟨i, by go_num, by go_num, hlv, hvh, S2, (scanUp_end _ _ _ _ (Or.inr (by exact HV'.out))).symm.trans HO.out⟩
              · have hltz : decide ((i : Int) ≤ (l : Int)) = false := by refine decide_eq_false ?_; omega
                go_wp2_with fail
                go_quiet (fail)
                have S2 : Aside _ := Sk.out.drewN nq
                generalize wr.drewN nq = w2 at S2 ⊢
                clear nq
                go_wp2_with fail
                go_meet
                case rel => exact ⟨i, by go_num, by go_num, hlv, hvh, S2, (scanUp_end _ _ _ _ (Or.inl hlt)).symm.trans HO.out⟩
          case rest =>
            clear Sl
            obtain ⟨i3, rfl, rfl, hli3, hhi3, Si3, Hi3⟩ := hcut
            go_upto_block 8 with fail
            go_cut [10, 11] (fun vi vj wx => ∃ j : Nat, vi = .int .i64 (i3 : Nat) ∧ vj = .int .i64 j ∧ j ≤ l ∧ i3 ≤ j + 1 ∧ Aside (St1 e64 w0 blk off dl wx) ∧ Hid (j = scanDown (fun x => !ltInt x dl[a]!) dl i3 l))
            case first =>
              go_wp2_with fail
              go_loopg [11] (l) (fun g vj wr => ∃ j : Nat, vj = .int .i64 j ∧ j ≤ l ∧ i3 ≤ j + 1 ∧ j ≤ g ∧ Aside (St1 e64 w0 blk off dl wr) ∧ Hid (scanDown (fun x => !ltInt x dl[a]!) dl i3 j = scanDown (fun x => !ltInt x dl[a]!) dl i3 l))
              case atStart => exact ⟨l, by go_num, by omega, by omega, Nat.le_refl _, Si3, rfl⟩
              case round =>
                clear Si3
                obtain ⟨j, rfl, hlv, hvh, hg, Sk, HO⟩ := hrel
                by_cases hlt : i3 ≤ j
                · obtain ⟨jp, rfl⟩ : ∃ jp, j = jp + 1 := ⟨j - 1, by omega⟩
                  have hltz : (i3 : Int) ≤ (jp : Int) + 1 := by omega
                  have bi7 : (jp : Int) + 1 < (n : Int) := by omega
                  have pi7 : (0 : Int) ≤ (jp : Int) + 1 := by omega
                  have ei7 : ((jp : Int) + 1).toNat = jp + 1 := by omega
                  have bj7 : (a : Int) < (n : Int) := by omega
                  obtain ⟨x, hx⟩ : ∃ x, x = dl[jp + 1]! := ⟨_, rfl⟩
                  obtain ⟨y, hy⟩ : ∃ y, y = dl[a]! := ⟨_, rfl⟩
                  have c1 : wr.cell? ⟨blk, off + (jp + 1), none⟩ = some (.int .i64 x) := by rw [hx]; exact Sk.out.cell (by omega)
                  have c2 : wr.cell? ⟨blk, off + (a), none⟩ = some (.int .i64 y) := by rw [hy]; exact Sk.out.cell (by omega)
                  have hless : ∀ c W, ltInt x y = c → Calls Tryz.prog 178 #[.int .i64 x, .int .i64 y] W fun e w' => e = .returned (.bool c) ∧ w' = W := fun c W hc => by rw [← hc]; exact less_o x y W
                  obtain ⟨c, hc⟩ : ∃ c, c = ltInt x y := ⟨_, rfl⟩
                  have HV : Aside (ltInt dl[jp + 1]! dl[a]! = c) := by show ltInt _ _ = _; rw [← hx, ← hy, hc]
                  replace hless := fun W => hless c W hc.symm
                  clear hx hy hc
                  cases c with
                  | true =>
                    have HV' : Aside _ := HV
                    clear HV
                    go_wp2_with fail
                    go_quiet (first | (go_at_call 178; refine Calls.quiet_of_same (hless _)))
                    have S2 : Aside _ := Sk.out.drewN nq
                    clear c1 c2 hless
                    generalize wr.drewN nq = w2 at S2 ⊢
                    clear nq
                    clear bi7 pi7 ei7 bj7
                    go_wp2_with fail
                    go_meet
                    case rel => exact ⟨jp + 1, by go_num, by go_num, hlv, hvh, S2, (scanDown_end _ _ _ _ (Or.inr (by show (!_) = _; rw [HV'.out]; rfl))).symm.trans HO.out⟩
                  | false =>
                    have HV' : Aside _ := HV
                    clear HV
                    go_wp2_with fail
                    go_quiet (first | (go_at_call 178; refine Calls.quiet_of_same (hless _)))
                    have S2 : Aside _ := Sk.out.drewN nq
                    clear c1 c2 hless
                    generalize wr.drewN nq = w2 at S2 ⊢
                    clear nq
                    clear bi7 pi7 ei7 bj7
                    go_wp2_with fail
                    go_roundg jp
                    case measure => omega
                    case rel => exact ⟨jp, by go_num, by omega, by omega, Nat.le_refl _, S2, (scanDown_go _ _ _ _ hlt (by omega) (by show (!_) = _; rw [HV'.out]; rfl)).symm.trans HO.out⟩
                · have hltz : decide ((i3 : Int) ≤ (j : Int)) = false := by refine decide_eq_false ?_; omega
                  go_wp2_with fail
                  go_quiet (fail)
                  have S2 : Aside _ := Sk.out.drewN nq
                  generalize wr.drewN nq = w2 at S2 ⊢
                  clear nq
                  go_wp2_with fail
                  go_meet
                  case rel => exact ⟨j, by go_num, by go_num, hlv, hvh, S2, (scanDown_end _ _ _ _ (Or.inl hlt)).symm.trans HO.out⟩
            case rest =>
              clear Si3
              obtain ⟨j3, rfl, rfl, hlj3, hhj3, Sj3, Hj3⟩ := hcut
              by_cases hgt : j3 < i3
              · have hgtz : (j3 : Int) < (i3 : Int) := by omega
                have bi8 : (j3 : Int) < (n : Int) := by omega
                have bj8 : (a : Int) < (n : Int) := by omega
                obtain ⟨x, hx⟩ : ∃ x, x = dl[j3]! := ⟨_, rfl⟩
                obtain ⟨y, hy⟩ : ∃ y, y = dl[a]! := ⟨_, rfl⟩
                have c1 : wc.cell? ⟨blk, off + (j3), none⟩ = some (.int .i64 x) := by rw [hx]; exact Sj3.out.cell (by omega)
                have c2 : wc.cell? ⟨blk, off + (a), none⟩ = some (.int .i64 y) := by rw [hy]; exact Sj3.out.cell (by omega)
                have f1 : wc.frozen? ⟨blk, off + (j3), none⟩ = false := Sj3.out.frozen (by omega)
                have f2 : wc.frozen? ⟨blk, off + (a), none⟩ = false := Sj3.out.frozen (by omega)
                obtain ⟨u2, g2⟩ := Sj3.out.second (j3) (a) (by omega) (by omega) (.int .i64 y)
                have S7 : Aside _ := (Sj3.out.swap (by omega) (by omega) hx hy).drew
                clear hx hy
                go_wp2_with fail
                go_region
                clear c1 c2 f1 f2 g2
                generalize ((wc.setCell ⟨blk, off + (j3), none⟩ (.int .i64 y)).setCell ⟨blk, off + (a), none⟩ (.int .i64 x)).drew = w7 at S7 ⊢
                clear bi8 bj8
                go_wp2_with fail
                (try simp only [Exit.inBlock, Exit.then]); refine bodyPost_ret (results_tmp2 rfl _ _ _) rfl ?_
                have hL := HL.out.trans (part_break ltInt a k l dl Hi3.out Hj3.out hgt)
                rw [HP.out, hL]
                exact ⟨rfl, S7.out⟩
              · have hgtz : ¬ (j3 : Int) < (i3 : Int) := by omega
                have hij := part_scans_lt ltInt a _ _ dl (by omega) Hi3.out Hj3.out (by omega)
                have bi9 : (i3 : Int) < (n : Int) := by omega
                have bj9 : (j3 : Int) < (n : Int) := by omega
                obtain ⟨x, hx⟩ : ∃ x, x = dl[i3]! := ⟨_, rfl⟩
                obtain ⟨y, hy⟩ : ∃ y, y = dl[j3]! := ⟨_, rfl⟩
                have c1 : wc.cell? ⟨blk, off + (i3), none⟩ = some (.int .i64 x) := by rw [hx]; exact Sj3.out.cell (by omega)
                have c2 : wc.cell? ⟨blk, off + (j3), none⟩ = some (.int .i64 y) := by rw [hy]; exact Sj3.out.cell (by omega)
                have f1 : wc.frozen? ⟨blk, off + (i3), none⟩ = false := Sj3.out.frozen (by omega)
                have f2 : wc.frozen? ⟨blk, off + (j3), none⟩ = false := Sj3.out.frozen (by omega)
                obtain ⟨u2, g2⟩ := Sj3.out.second (i3) (j3) (by omega) (by omega) (.int .i64 y)
                have S8 : Aside _ := (Sj3.out.swap (by omega) (by omega) hx hy).drew
                clear hx hy
                go_wp2_with fail
                go_region
                clear c1 c2 f1 f2 g2
                generalize ((wc.setCell ⟨blk, off + (i3), none⟩ (.int .i64 y)).setCell ⟨blk, off + (j3), none⟩ (.int .i64 x)).drew = w8 at S8 ⊢
                clear bi9 bj9
                go_wp2_with fail
                go_roundg (j3 - 1)
                case measure => omega
                case rel => exact ⟨i3 + 1, j3 - 1, swp dl i3 j3, by go_num, by go_num, by omega, by omega, by omega, Nat.le_refl _, by rw [size_swp]; exact hsl, S8, HL.out.trans (part_go ltInt a k l dl Hi3.out Hj3.out (by omega))⟩
end Go.Proofs.YtglgmkikegbchaaGreat
