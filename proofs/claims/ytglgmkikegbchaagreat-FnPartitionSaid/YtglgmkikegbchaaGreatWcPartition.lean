/- partition: the text by a function that compares, over elements of two cells. -/
import Derived.Test.YtglgmkikegbchaaGreatWc0
import Derived.Test.YtglgmkikegbchaaGreatPb
import Derived.Deep.CutBlock
import Derived.Deep.DeepCutAuto
import Derived.Sort.WalkC4
import Derived.Sort.WalkC
namespace Go.Proofs.YtglgmkikegbchaaGreat
open Go.RowKit Go.Sort

set_option maxHeartbeats 16000000 in
set_option maxRecDepth 1000000 in
theorem partition_c (O : Value) (cf : It → It → Int) (hC : CmpC O cf) (w0 : World) (blk off cap n : Nat) (d : Array It) (w : World) (S : St2 w0 blk off d w) (hn : d.size = n) (hsz : n < 4611686018427387904) (a b pv : Nat) (hap : a ≤ pv) (hpb : pv < b) (hb : b ≤ n) :
    Calls Tryz.prog 127 #[.slice (some ⟨blk, off, none⟩) n cap, .int .i64 a, .int .i64 b, .int .i64 pv, .func (.func 43) #[O] #[]] w fun e w' =>
      e = .returned (.tuple #[.int .i64 ((partition (ltC cf) d a b pv).1 : Nat), .bool (partition (ltC cf) d a b pv).2.1]) ∧ St2 w0 blk off (partition (ltC cf) d a b pv).2.2 w' := by
  obtain ⟨J, rfl⟩ : ∃ J, b = J + 1 := ⟨b - 1, by omega⟩
  obtain ⟨R, hR⟩ : ∃ R, R = partition (ltC cf) d a (J + 1) pv := ⟨_, rfl⟩
  rw [← hR]
  have HR : Aside _ := hR
  clear hR
  have mixed : Tryz.prog.follows .mixedOrders = true := by kernel_rfl
  have HC : Aside (CmpC O cf) := hC
  have S0 : Aside (St2 w0 blk off d w) := S
  clear S
  go_enter Tryz.func127, Tryz.ntmps127
  have bi1 : (a : Int) < (n : Int) := by omega
  have ri1 : IntKind.i64.wrap ((a : Int)) = (a : Int) := by rw [IntKind.wrap_i64]; omega
  have bj1 : (pv : Int) < (n : Int) := by omega
  have rj1 : IntKind.i64.wrap ((pv : Int)) = (pv : Int) := by rw [IntKind.wrap_i64]; omega
  obtain ⟨⟨x1, x2⟩, hx⟩ : ∃ x : It, x = d[a]! := ⟨_, rfl⟩
  obtain ⟨⟨y1, y2⟩, hy⟩ : ∃ y : It, y = d[pv]! := ⟨_, rfl⟩
  obtain ⟨c11, c12, f11, f12⟩ := S0.out.holds (a) (by omega)
  obtain ⟨c21, c22, f21, f22⟩ := S0.out.holds (pv) (by omega)
  rw [← hx] at c11 c12
  rw [← hy] at c21 c22
  dsimp only at c11 c12 c21 c22
  obtain ⟨u3, g3⟩ := S0.out.third (a) (pv) (by omega) (by omega) (.int .i64 y1) (.int .i64 y2)
  obtain ⟨u4, g4⟩ := S0.out.fourth (a) (pv) (by omega) (by omega) (.int .i64 y1) (.int .i64 y2) (.int .i64 x1)
  have S1 : Aside _ := (S0.out.swap (by omega) (by omega) hx hy).drew
  dsimp only at S1
  clear hx hy
  go_wp2_with fail
  go_region
  clear c11 c12 c21 c22 f11 f12 f21 f22 g3 g4
  generalize ((((w.setCell ⟨blk, off + (a) * 2, none⟩ (.int .i64 y1)).setCell ⟨blk, off + (a) * 2 + 1, none⟩ (.int .i64 y2)).setCell ⟨blk, off + (pv) * 2, none⟩ (.int .i64 x1)).setCell ⟨blk, off + (pv) * 2 + 1, none⟩ (.int .i64 x2)).drew = w1 at S1 ⊢
  clear bi1 ri1 bj1 rj1
  obtain ⟨dk, hdk⟩ : ∃ dk, dk = swp d a pv := ⟨_, rfl⟩
  rw [← hdk] at S1
  have hsk : dk.size = n := by rw [hdk, size_swp]; exact hn
  have HDK : Aside (dk = swp d a pv) := hdk
  clear hdk S0
  go_upto_block 0 with fail
  go_cut [12, 13] (fun vi vj wx => ∃ i : Nat, vi = .int .i64 i ∧ vj = .int .i64 (J : Nat) ∧ (a + 1) ≤ i ∧ i ≤ J + 1 ∧ Aside (St2 w0 blk off dk wx) ∧ Hid (i = scanUp (fun x => (ltC cf) x dk[a]!) dk J (a + 1)))
  case first =>
    go_wp2_with fail
    go_loopg [12] (J + 1 - (a + 1)) (fun g vi wr => ∃ i : Nat, vi = .int .i64 i ∧ (a + 1) ≤ i ∧ i ≤ J + 1 ∧ J + 1 - i ≤ g ∧ Aside (St2 w0 blk off dk wr) ∧ Hid (scanUp (fun x => (ltC cf) x dk[a]!) dk J i = scanUp (fun x => (ltC cf) x dk[a]!) dk J (a + 1)))
    case atStart => exact ⟨(a + 1), by go_num, by omega, by omega, Nat.le_refl _, S1, rfl⟩
    case round =>
      clear S1
      obtain ⟨i, rfl, hlv, hvh, hg, Sk, HO⟩ := hrel
      by_cases hlt : i ≤ J
      · have hltz : (i : Int) ≤ (J : Int) := by omega
        have bi2 : (i : Int) < (n : Int) := by omega
        have ri2 : IntKind.i64.wrap ((i : Int)) = (i : Int) := by rw [IntKind.wrap_i64]; omega
        have bj2 : (a : Int) < (n : Int) := by omega
        have rj2 : IntKind.i64.wrap ((a : Int)) = (a : Int) := by rw [IntKind.wrap_i64]; omega
        obtain ⟨⟨x1, x2⟩, hx⟩ : ∃ x : It, x = dk[i]! := ⟨_, rfl⟩
        obtain ⟨⟨y1, y2⟩, hy⟩ : ∃ y : It, y = dk[a]! := ⟨_, rfl⟩
        have c11 := fun n' os => (Sk.out.cells (i := i) (by omega) hx n' os).1
        have c12 := fun n' os => (Sk.out.cells (i := i) (by omega) hx n' os).2
        have c21 := fun n' os => (Sk.out.cells (i := a) (by omega) hy n' os).1
        have c22 := fun n' os => (Sk.out.cells (i := a) (by omega) hy n' os).2
        have hcc := CmpC.out HC (x1, x2) (y1, y2)
        dsimp only [vIt] at c11 c12 c21 c22 hcc
        obtain ⟨c, hc⟩ : ∃ c, c = cf (x1, x2) (y1, y2) := ⟨_, rfl⟩
        rw [← hc] at hcc
        have HV : Aside (ltC cf dk[i]! dk[a]! = decide (c < 0)) := by show ltC cf _ _ = _; rw [← hx, ← hy, hc]; rfl
        clear hx hy hc
        by_cases hcl : c < 0
        · have hcd : decide (c < 0) = true := decide_eq_true hcl
          replace HV := HV.out.trans hcd
          have HV' : Aside _ := HV
          clear HV
          go_wp2_with fail
          go_quiet_grown (first | (go_at_call 43; refine Calls.grown_of (hcc _)))
          have S2 : Aside _ := Sk.out.grow nq osq
          clear c11 c12 c21 c22 hcc
          generalize grow (wr.drewN nq) osq = w2 at S2 ⊢
          clear nq osq
          clear bi2 ri2 bj2 rj2
          go_wp2_with fail
          go_roundg (J + 1 - (i + 1))
          case measure => omega
          case rel => exact ⟨i + 1, by go_num, by omega, by omega, Nat.le_refl _, S2, (scanUp_go _ _ _ _ hlt (by exact HV'.out)).symm.trans HO.out⟩
        · have hcd : decide (c < 0) = false := decide_eq_false hcl
          replace HV := HV.out.trans hcd
          have HV' : Aside _ := HV
          clear HV
          go_wp2_with fail
          go_quiet_grown (first | (go_at_call 43; refine Calls.grown_of (hcc _)))
          have S2 : Aside _ := Sk.out.grow nq osq
          clear c11 c12 c21 c22 hcc
          generalize grow (wr.drewN nq) osq = w2 at S2 ⊢
          clear nq osq
          clear bi2 ri2 bj2 rj2
          go_wp2_with fail
          go_meet
          case rel => exact ⟨i, by go_num, by go_num, hlv, hvh, S2, (scanUp_end _ _ _ _ (Or.inr (by exact HV'.out))).symm.trans HO.out⟩
      · have hltz : decide ((i : Int) ≤ (J : Int)) = false := by refine decide_eq_false ?_; omega
        go_wp2_with fail
        go_quiet (fail)
        have S2 : Aside _ := Sk.out.drewN nq
        generalize wr.drewN nq = w2 at S2 ⊢
        clear nq
        go_wp2_with fail
        go_meet
        case rel => exact ⟨i, by go_num, by go_num, hlv, hvh, S2, (scanUp_end _ _ _ _ (Or.inl hlt)).symm.trans HO.out⟩
  case rest =>
    clear S1
    obtain ⟨i1, rfl, rfl, hli1, hhi1, Si1, Hi1⟩ := hcut
    go_upto_block 2 with fail
    go_cut [12, 13] (fun vi vj wx => ∃ j : Nat, vi = .int .i64 (i1 : Nat) ∧ vj = .int .i64 j ∧ j ≤ J ∧ i1 ≤ j + 1 ∧ Aside (St2 w0 blk off dk wx) ∧ Hid (j = scanDown (fun x => !(ltC cf) x dk[a]!) dk i1 J))
    case first =>
      go_wp2_with fail
      go_loopg [13] (J) (fun g vj wr => ∃ j : Nat, vj = .int .i64 j ∧ j ≤ J ∧ i1 ≤ j + 1 ∧ j ≤ g ∧ Aside (St2 w0 blk off dk wr) ∧ Hid (scanDown (fun x => !(ltC cf) x dk[a]!) dk i1 j = scanDown (fun x => !(ltC cf) x dk[a]!) dk i1 J))
      case atStart => exact ⟨J, by go_num, by omega, by omega, Nat.le_refl _, Si1, rfl⟩
      case round =>
        clear Si1
        obtain ⟨j, rfl, hlv, hvh, hg, Sk, HO⟩ := hrel
        by_cases hlt : i1 ≤ j
        · obtain ⟨jp, rfl⟩ : ∃ jp, j = jp + 1 := ⟨j - 1, by omega⟩
          have hltz : (i1 : Int) ≤ (jp : Int) + 1 := by omega
          have bi3 : (jp : Int) + 1 < (n : Int) := by omega
          have ri3 : IntKind.i64.wrap ((jp : Int) + 1) = (jp : Int) + 1 := by rw [IntKind.wrap_i64]; omega
          have pi3 : (0 : Int) ≤ (jp : Int) + 1 := by omega
          have ei3 : ((jp : Int) + 1).toNat = jp + 1 := by omega
          have bj3 : (a : Int) < (n : Int) := by omega
          have rj3 : IntKind.i64.wrap ((a : Int)) = (a : Int) := by rw [IntKind.wrap_i64]; omega
          obtain ⟨⟨x1, x2⟩, hx⟩ : ∃ x : It, x = dk[jp + 1]! := ⟨_, rfl⟩
          obtain ⟨⟨y1, y2⟩, hy⟩ : ∃ y : It, y = dk[a]! := ⟨_, rfl⟩
          have c11 := fun n' os => (Sk.out.cells (i := jp + 1) (by omega) hx n' os).1
          have c12 := fun n' os => (Sk.out.cells (i := jp + 1) (by omega) hx n' os).2
          have c21 := fun n' os => (Sk.out.cells (i := a) (by omega) hy n' os).1
          have c22 := fun n' os => (Sk.out.cells (i := a) (by omega) hy n' os).2
          have hcc := CmpC.out HC (x1, x2) (y1, y2)
          dsimp only [vIt] at c11 c12 c21 c22 hcc
          obtain ⟨c, hc⟩ : ∃ c, c = cf (x1, x2) (y1, y2) := ⟨_, rfl⟩
          rw [← hc] at hcc
          have HV : Aside (ltC cf dk[jp + 1]! dk[a]! = decide (c < 0)) := by show ltC cf _ _ = _; rw [← hx, ← hy, hc]; rfl
          clear hx hy hc
          by_cases hcl : c < 0
          · have hcd : decide (c < 0) = true := decide_eq_true hcl
            replace HV := HV.out.trans hcd
            have HV' : Aside _ := HV
            clear HV
            go_wp2_with fail
            go_quiet_grown (first | (go_at_call 43; refine Calls.grown_of (hcc _)))
            have S2 : Aside _ := Sk.out.grow nq osq
            clear c11 c12 c21 c22 hcc
            generalize grow (wr.drewN nq) osq = w2 at S2 ⊢
            clear nq osq
            clear bi3 ri3 pi3 ei3 bj3 rj3
            go_wp2_with fail
            go_meet
            case rel => exact ⟨jp + 1, by go_num, by go_num, hlv, hvh, S2, (scanDown_end _ _ _ _ (Or.inr (by show (!_) = _; rw [HV'.out]; rfl))).symm.trans HO.out⟩
          · have hcd : decide (c < 0) = false := decide_eq_false hcl
            replace HV := HV.out.trans hcd
            have HV' : Aside _ := HV
            clear HV
            go_wp2_with fail
            go_quiet_grown (first | (go_at_call 43; refine Calls.grown_of (hcc _)))
            have S2 : Aside _ := Sk.out.grow nq osq
            clear c11 c12 c21 c22 hcc
            generalize grow (wr.drewN nq) osq = w2 at S2 ⊢
            clear nq osq
            clear bi3 ri3 pi3 ei3 bj3 rj3
            go_wp2_with fail
            go_roundg jp
            case measure => omega
            case rel => exact ⟨jp, by go_num, by omega, by omega, Nat.le_refl _, S2, (scanDown_go _ _ _ _ hlt (by omega) (by show (!_) = _; rw [HV'.out]; rfl)).symm.trans HO.out⟩
        · have hltz : decide ((i1 : Int) ≤ (j : Int)) = false := by refine decide_eq_false ?_; omega
          go_wp2_with fail
          go_quiet (fail)
          have S2 : Aside _ := Sk.out.drewN nq
          generalize wr.drewN nq = w2 at S2 ⊢
          clear nq
          go_wp2_with fail
          go_meet
          case rel => exact ⟨j, by go_num, by go_num, hlv, hvh, S2, (scanDown_end _ _ _ _ (Or.inl hlt)).symm.trans HO.out⟩
    case rest =>
      clear Si1
      obtain ⟨j1, rfl, rfl, hlj1, hhj1, Sj1, Hj1⟩ := hcut
      by_cases hgt : j1 < i1
      · have hgtz : (j1 : Int) < (i1 : Int) := by omega
        have bi4 : (j1 : Int) < (n : Int) := by omega
        have ri4 : IntKind.i64.wrap ((j1 : Int)) = (j1 : Int) := by rw [IntKind.wrap_i64]; omega
        have bj4 : (a : Int) < (n : Int) := by omega
        have rj4 : IntKind.i64.wrap ((a : Int)) = (a : Int) := by rw [IntKind.wrap_i64]; omega
        obtain ⟨⟨x1, x2⟩, hx⟩ : ∃ x : It, x = dk[j1]! := ⟨_, rfl⟩
        obtain ⟨⟨y1, y2⟩, hy⟩ : ∃ y : It, y = dk[a]! := ⟨_, rfl⟩
        obtain ⟨c11, c12, f11, f12⟩ := Sj1.out.holds (j1) (by omega)
        obtain ⟨c21, c22, f21, f22⟩ := Sj1.out.holds (a) (by omega)
        rw [← hx] at c11 c12
        rw [← hy] at c21 c22
        dsimp only at c11 c12 c21 c22
        obtain ⟨u3, g3⟩ := Sj1.out.third (j1) (a) (by omega) (by omega) (.int .i64 y1) (.int .i64 y2)
        obtain ⟨u4, g4⟩ := Sj1.out.fourth (j1) (a) (by omega) (by omega) (.int .i64 y1) (.int .i64 y2) (.int .i64 x1)
        have S7 : Aside _ := (Sj1.out.swap (by omega) (by omega) hx hy).drew
        dsimp only at S7
        clear hx hy
        go_wp2_with fail
        go_region
        clear c11 c12 c21 c22 f11 f12 f21 f22 g3 g4
        generalize ((((wc.setCell ⟨blk, off + (j1) * 2, none⟩ (.int .i64 y1)).setCell ⟨blk, off + (j1) * 2 + 1, none⟩ (.int .i64 y2)).setCell ⟨blk, off + (a) * 2, none⟩ (.int .i64 x1)).setCell ⟨blk, off + (a) * 2 + 1, none⟩ (.int .i64 x2)).drew = w7 at S7 ⊢
        clear bi4 ri4 bj4 rj4
        go_wp2_with fail
        (try simp only [Exit.inBlock, Exit.then]); refine bodyPost_ret (results_tmp2 rfl _ _ _) rfl ?_
        rw [HR.out, part_first_break (ltC cf) d a (J + 1) pv rfl rfl HDK.out Hi1.out Hj1.out hgt]
        exact ⟨rfl, S7.out⟩
      · have hgtz : ¬ (j1 : Int) < (i1 : Int) := by omega
        have hij := part_scans_lt (ltC cf) a _ _ dk (by omega) Hi1.out Hj1.out (by omega)
        have bi5 : (i1 : Int) < (n : Int) := by omega
        have ri5 : IntKind.i64.wrap ((i1 : Int)) = (i1 : Int) := by rw [IntKind.wrap_i64]; omega
        have bj5 : (j1 : Int) < (n : Int) := by omega
        have rj5 : IntKind.i64.wrap ((j1 : Int)) = (j1 : Int) := by rw [IntKind.wrap_i64]; omega
        obtain ⟨⟨x1, x2⟩, hx⟩ : ∃ x : It, x = dk[i1]! := ⟨_, rfl⟩
        obtain ⟨⟨y1, y2⟩, hy⟩ : ∃ y : It, y = dk[j1]! := ⟨_, rfl⟩
        obtain ⟨c11, c12, f11, f12⟩ := Sj1.out.holds (i1) (by omega)
        obtain ⟨c21, c22, f21, f22⟩ := Sj1.out.holds (j1) (by omega)
        rw [← hx] at c11 c12
        rw [← hy] at c21 c22
        dsimp only at c11 c12 c21 c22
        obtain ⟨u3, g3⟩ := Sj1.out.third (i1) (j1) (by omega) (by omega) (.int .i64 y1) (.int .i64 y2)
        obtain ⟨u4, g4⟩ := Sj1.out.fourth (i1) (j1) (by omega) (by omega) (.int .i64 y1) (.int .i64 y2) (.int .i64 x1)
        have S8 : Aside _ := (Sj1.out.swap (by omega) (by omega) hx hy).drew
        dsimp only at S8
        clear hx hy
        go_wp2_with fail
        go_region
        clear c11 c12 c21 c22 f11 f12 f21 f22 g3 g4
        generalize ((((wc.setCell ⟨blk, off + (i1) * 2, none⟩ (.int .i64 y1)).setCell ⟨blk, off + (i1) * 2 + 1, none⟩ (.int .i64 y2)).setCell ⟨blk, off + (j1) * 2, none⟩ (.int .i64 x1)).setCell ⟨blk, off + (j1) * 2 + 1, none⟩ (.int .i64 x2)).drew = w8 at S8 ⊢
        clear bi5 ri5 bj5 rj5
        obtain ⟨Q, hQ⟩ : ∃ Q, Q = partLoop (ltC cf) a (i1 + 1) (j1 - 1) (swp dk i1 j1) := ⟨_, rfl⟩
        have HP : Hid (R = (Q.1, false, swp Q.2 Q.1 a)) := by show _ = _; rw [HR.out, hQ]; exact part_first_go (ltC cf) d a (J + 1) pv rfl rfl HDK.out Hi1.out Hj1.out (by omega)
        have HQ : Hid (Q = partLoop (ltC cf) a (i1 + 1) (j1 - 1) (swp dk i1 j1)) := hQ
        have hs8 : (swp dk i1 j1).size = n := by rw [size_swp]; exact hsk
        clear hQ HR HDK Hi1 Hj1 Sj1 hgtz
        generalize swp dk i1 j1 = dl at S8 HQ hs8
        go_wp2_with fail
        go_loopg [12, 13] J (fun g vi vj wr => ∃ (k l : Nat) (dl : Array It), vi = .int .i64 k ∧ vj = .int .i64 l ∧ a < k ∧ k ≤ l + 1 ∧ l ≤ J ∧ l ≤ g ∧ dl.size = n ∧ Aside (St2 w0 blk off dl wr) ∧ Hid (Q = partLoop (ltC cf) a k l dl))
        case atStart => exact ⟨i1 + 1, j1 - 1, dl, by go_num, by go_num, by omega, by omega, by omega, by omega, hs8, S8, HQ⟩
        case round =>
          clear S8 HQ hs8 dl
          obtain ⟨k, l, dl, rfl, rfl, hak, hkl, hlJ, hgl, hsl, Sl, HL⟩ := hrel
          go_upto_block 6 with fail
          go_cut [12, 13] (fun vi vj wx => ∃ i : Nat, vi = .int .i64 i ∧ vj = .int .i64 (l : Nat) ∧ k ≤ i ∧ i ≤ l + 1 ∧ Aside (St2 w0 blk off dl wx) ∧ Hid (i = scanUp (fun x => (ltC cf) x dl[a]!) dl l k))
          case first =>
            go_wp2_with fail
            go_loopg [12] (l + 1 - k) (fun g vi wr => ∃ i : Nat, vi = .int .i64 i ∧ k ≤ i ∧ i ≤ l + 1 ∧ l + 1 - i ≤ g ∧ Aside (St2 w0 blk off dl wr) ∧ Hid (scanUp (fun x => (ltC cf) x dl[a]!) dl l i = scanUp (fun x => (ltC cf) x dl[a]!) dl l k))
            case atStart => exact ⟨k, rfl, by omega, by omega, Nat.le_refl _, Sl, rfl⟩
            case round =>
              clear Sl
              obtain ⟨i, rfl, hlv, hvh, hg, Sk, HO⟩ := hrel
              by_cases hlt : i ≤ l
              · have hltz : (i : Int) ≤ (l : Int) := by omega
                have bi6 : (i : Int) < (n : Int) := by omega
                have ri6 : IntKind.i64.wrap ((i : Int)) = (i : Int) := by rw [IntKind.wrap_i64]; omega
                have bj6 : (a : Int) < (n : Int) := by omega
                have rj6 : IntKind.i64.wrap ((a : Int)) = (a : Int) := by rw [IntKind.wrap_i64]; omega
                obtain ⟨⟨x1, x2⟩, hx⟩ : ∃ x : It, x = dl[i]! := ⟨_, rfl⟩
                obtain ⟨⟨y1, y2⟩, hy⟩ : ∃ y : It, y = dl[a]! := ⟨_, rfl⟩
                have c11 := fun n' os => (Sk.out.cells (i := i) (by omega) hx n' os).1
                have c12 := fun n' os => (Sk.out.cells (i := i) (by omega) hx n' os).2
                have c21 := fun n' os => (Sk.out.cells (i := a) (by omega) hy n' os).1
                have c22 := fun n' os => (Sk.out.cells (i := a) (by omega) hy n' os).2
                have hcc := CmpC.out HC (x1, x2) (y1, y2)
                dsimp only [vIt] at c11 c12 c21 c22 hcc
                obtain ⟨c, hc⟩ : ∃ c, c = cf (x1, x2) (y1, y2) := ⟨_, rfl⟩
                rw [← hc] at hcc
                have HV : Aside (ltC cf dl[i]! dl[a]! = decide (c < 0)) := by show ltC cf _ _ = _; rw [← hx, ← hy, hc]; rfl
                clear hx hy hc
                by_cases hcl : c < 0
                · have hcd : decide (c < 0) = true := decide_eq_true hcl
                  replace HV := HV.out.trans hcd
                  have HV' : Aside _ := HV
                  clear HV
                  go_wp2_with fail
                  go_quiet_grown (first | (go_at_call 43; refine Calls.grown_of (hcc _)))
                  have S2 : Aside _ := Sk.out.grow nq osq
                  clear c11 c12 c21 c22 hcc
                  generalize grow (wr.drewN nq) osq = w2 at S2 ⊢
                  clear nq osq
                  clear bi6 ri6 bj6 rj6
                  go_wp2_with fail
                  go_roundg (l + 1 - (i + 1))
                  case measure => omega
                  case rel => exact ⟨i + 1, by go_num, by omega, by omega, Nat.le_refl _, S2, (scanUp_go _ _ _ _ hlt (by exact HV'.out)).symm.trans HO.out⟩
                · have hcd : decide (c < 0) = false := decide_eq_false hcl
                  replace HV := HV.out.trans hcd
                  have HV' : Aside _ := HV
                  clear HV
                  go_wp2_with fail
                  go_quiet_grown (first | (go_at_call 43; refine Calls.grown_of (hcc _)))
                  have S2 : Aside _ := Sk.out.grow nq osq
                  clear c11 c12 c21 c22 hcc
                  generalize grow (wr.drewN nq) osq = w2 at S2 ⊢
                  clear nq osq
                  clear bi6 ri6 bj6 rj6
                  go_wp2_with fail
                  go_meet
                  case rel => exact ⟨i, by go_num, by go_num, hlv, hvh, S2, (scanUp_end _ _ _ _ (Or.inr (by exact HV'.out))).symm.trans HO.out⟩
              · have hltz : decide ((i : Int) ≤ (l : Int)) = false := by refine decide_eq_false ?_; omega
                go_wp2_with fail
                go_quiet (fail)
                have S2 : Aside _ := Sk.out.drewN nq
                generalize wr.drewN nq = w2 at S2 ⊢
                clear nq
                go_wp2_with fail
                go_meet
                case rel => exact ⟨i, by go_num, by go_num, hlv, hvh, S2, (scanUp_end _ _ _ _ (Or.inl hlt)).symm.trans HO.out⟩
          case rest =>
            clear Sl
            obtain ⟨i3, rfl, rfl, hli3, hhi3, Si3, Hi3⟩ := hcut
            go_upto_block 8 with fail
            go_cut [12, 13] (fun vi vj wx => ∃ j : Nat, vi = .int .i64 (i3 : Nat) ∧ vj = .int .i64 j ∧ j ≤ l ∧ i3 ≤ j + 1 ∧ Aside (St2 w0 blk off dl wx) ∧ Hid (j = scanDown (fun x => !(ltC cf) x dl[a]!) dl i3 l))
            case first =>
              go_wp2_with fail
              go_loopg [13] (l) (fun g vj wr => ∃ j : Nat, vj = .int .i64 j ∧ j ≤ l ∧ i3 ≤ j + 1 ∧ j ≤ g ∧ Aside (St2 w0 blk off dl wr) ∧ Hid (scanDown (fun x => !(ltC cf) x dl[a]!) dl i3 j = scanDown (fun x => !(ltC cf) x dl[a]!) dl i3 l))
              case atStart => exact ⟨l, by go_num, by omega, by omega, Nat.le_refl _, Si3, rfl⟩
              case round =>
                clear Si3
                obtain ⟨j, rfl, hlv, hvh, hg, Sk, HO⟩ := hrel
                by_cases hlt : i3 ≤ j
                · obtain ⟨jp, rfl⟩ : ∃ jp, j = jp + 1 := ⟨j - 1, by omega⟩
                  have hltz : (i3 : Int) ≤ (jp : Int) + 1 := by omega
                  have bi7 : (jp : Int) + 1 < (n : Int) := by omega
                  have ri7 : IntKind.i64.wrap ((jp : Int) + 1) = (jp : Int) + 1 := by rw [IntKind.wrap_i64]; omega
                  have pi7 : (0 : Int) ≤ (jp : Int) + 1 := by omega
                  have ei7 : ((jp : Int) + 1).toNat = jp + 1 := by omega
                  have bj7 : (a : Int) < (n : Int) := by omega
                  have rj7 : IntKind.i64.wrap ((a : Int)) = (a : Int) := by rw [IntKind.wrap_i64]; omega
                  obtain ⟨⟨x1, x2⟩, hx⟩ : ∃ x : It, x = dl[jp + 1]! := ⟨_, rfl⟩
                  obtain ⟨⟨y1, y2⟩, hy⟩ : ∃ y : It, y = dl[a]! := ⟨_, rfl⟩
                  have c11 := fun n' os => (Sk.out.cells (i := jp + 1) (by omega) hx n' os).1
                  have c12 := fun n' os => (Sk.out.cells (i := jp + 1) (by omega) hx n' os).2
                  have c21 := fun n' os => (Sk.out.cells (i := a) (by omega) hy n' os).1
                  have c22 := fun n' os => (Sk.out.cells (i := a) (by omega) hy n' os).2
                  have hcc := CmpC.out HC (x1, x2) (y1, y2)
                  dsimp only [vIt] at c11 c12 c21 c22 hcc
                  obtain ⟨c, hc⟩ : ∃ c, c = cf (x1, x2) (y1, y2) := ⟨_, rfl⟩
                  rw [← hc] at hcc
                  have HV : Aside (ltC cf dl[jp + 1]! dl[a]! = decide (c < 0)) := by show ltC cf _ _ = _; rw [← hx, ← hy, hc]; rfl
                  clear hx hy hc
                  by_cases hcl : c < 0
                  · have hcd : decide (c < 0) = true := decide_eq_true hcl
                    replace HV := HV.out.trans hcd
                    have HV' : Aside _ := HV
                    clear HV
                    go_wp2_with fail
                    go_quiet_grown (first | (go_at_call 43; refine Calls.grown_of (hcc _)))
                    have S2 : Aside _ := Sk.out.grow nq osq
                    clear c11 c12 c21 c22 hcc
                    generalize grow (wr.drewN nq) osq = w2 at S2 ⊢
                    clear nq osq
                    clear bi7 ri7 pi7 ei7 bj7 rj7
                    go_wp2_with fail
                    go_meet
                    case rel => exact ⟨jp + 1, by go_num, by go_num, hlv, hvh, S2, (scanDown_end _ _ _ _ (Or.inr (by show (!_) = _; rw [HV'.out]; rfl))).symm.trans HO.out⟩
                  · have hcd : decide (c < 0) = false := decide_eq_false hcl
                    replace HV := HV.out.trans hcd
                    have HV' : Aside _ := HV
                    clear HV
                    go_wp2_with fail
                    go_quiet_grown (first | (go_at_call 43; refine Calls.grown_of (hcc _)))
                    have S2 : Aside _ := Sk.out.grow nq osq
                    clear c11 c12 c21 c22 hcc
                    generalize grow (wr.drewN nq) osq = w2 at S2 ⊢
                    clear nq osq
                    clear bi7 ri7 pi7 ei7 bj7 rj7
                    go_wp2_with fail
                    go_roundg jp
                    case measure => omega
                    case rel => exact ⟨jp, by go_num, by omega, by omega, Nat.le_refl _, S2, (scanDown_go _ _ _ _ hlt (by omega) (by show (!_) = _; rw [HV'.out]; rfl)).symm.trans HO.out⟩
                · have hltz : decide ((i3 : Int) ≤ (j : Int)) = false := by refine decide_eq_false ?_; omega
                  go_wp2_with fail
                  go_quiet (fail)
                  have S2 : Aside _ := Sk.out.drewN nq
                  generalize wr.drewN nq = w2 at S2 ⊢
                  clear nq
                  go_wp2_with fail
                  go_meet
                  case rel => exact ⟨j, by go_num, by go_num, hlv, hvh, S2, (scanDown_end _ _ _ _ (Or.inl hlt)).symm.trans HO.out⟩
            case rest =>
              clear Si3
              obtain ⟨j3, rfl, rfl, hlj3, hhj3, Sj3, Hj3⟩ := hcut
              by_cases hgt : j3 < i3
              · have hgtz : (j3 : Int) < (i3 : Int) := by omega
                have bi8 : (j3 : Int) < (n : Int) := by omega
                have ri8 : IntKind.i64.wrap ((j3 : Int)) = (j3 : Int) := by rw [IntKind.wrap_i64]; omega
                have bj8 : (a : Int) < (n : Int) := by omega
                have rj8 : IntKind.i64.wrap ((a : Int)) = (a : Int) := by rw [IntKind.wrap_i64]; omega
                obtain ⟨⟨x1, x2⟩, hx⟩ : ∃ x : It, x = dl[j3]! := ⟨_, rfl⟩
                obtain ⟨⟨y1, y2⟩, hy⟩ : ∃ y : It, y = dl[a]! := ⟨_, rfl⟩
                obtain ⟨c11, c12, f11, f12⟩ := Sj3.out.holds (j3) (by omega)
                obtain ⟨c21, c22, f21, f22⟩ := Sj3.out.holds (a) (by omega)
                rw [← hx] at c11 c12
                rw [← hy] at c21 c22
                dsimp only at c11 c12 c21 c22
                obtain ⟨u3, g3⟩ := Sj3.out.third (j3) (a) (by omega) (by omega) (.int .i64 y1) (.int .i64 y2)
                obtain ⟨u4, g4⟩ := Sj3.out.fourth (j3) (a) (by omega) (by omega) (.int .i64 y1) (.int .i64 y2) (.int .i64 x1)
                have S7 : Aside _ := (Sj3.out.swap (by omega) (by omega) hx hy).drew
                dsimp only at S7
                clear hx hy
                go_wp2_with fail
                go_region
                clear c11 c12 c21 c22 f11 f12 f21 f22 g3 g4
                generalize ((((wc.setCell ⟨blk, off + (j3) * 2, none⟩ (.int .i64 y1)).setCell ⟨blk, off + (j3) * 2 + 1, none⟩ (.int .i64 y2)).setCell ⟨blk, off + (a) * 2, none⟩ (.int .i64 x1)).setCell ⟨blk, off + (a) * 2 + 1, none⟩ (.int .i64 x2)).drew = w7 at S7 ⊢
                clear bi8 ri8 bj8 rj8
                go_wp2_with fail
                (try simp only [Exit.inBlock, Exit.then]); refine bodyPost_ret (results_tmp2 rfl _ _ _) rfl ?_
                have hL := HL.out.trans (part_break (ltC cf) a k l dl Hi3.out Hj3.out hgt)
                rw [HP.out, hL]
                exact ⟨rfl, S7.out⟩
              · have hgtz : ¬ (j3 : Int) < (i3 : Int) := by omega
                have hij := part_scans_lt (ltC cf) a _ _ dl (by omega) Hi3.out Hj3.out (by omega)
                have bi9 : (i3 : Int) < (n : Int) := by omega
                have ri9 : IntKind.i64.wrap ((i3 : Int)) = (i3 : Int) := by rw [IntKind.wrap_i64]; omega
                have bj9 : (j3 : Int) < (n : Int) := by omega
                have rj9 : IntKind.i64.wrap ((j3 : Int)) = (j3 : Int) := by rw [IntKind.wrap_i64]; omega
                obtain ⟨⟨x1, x2⟩, hx⟩ : ∃ x : It, x = dl[i3]! := ⟨_, rfl⟩
                obtain ⟨⟨y1, y2⟩, hy⟩ : ∃ y : It, y = dl[j3]! := ⟨_, rfl⟩
                obtain ⟨c11, c12, f11, f12⟩ := Sj3.out.holds (i3) (by omega)
                obtain ⟨c21, c22, f21, f22⟩ := Sj3.out.holds (j3) (by omega)
                rw [← hx] at c11 c12
                rw [← hy] at c21 c22
                dsimp only at c11 c12 c21 c22
                obtain ⟨u3, g3⟩ := Sj3.out.third (i3) (j3) (by omega) (by omega) (.int .i64 y1) (.int .i64 y2)
                obtain ⟨u4, g4⟩ := Sj3.out.fourth (i3) (j3) (by omega) (by omega) (.int .i64 y1) (.int .i64 y2) (.int .i64 x1)
                have S8 : Aside _ := (Sj3.out.swap (by omega) (by omega) hx hy).drew
                dsimp only at S8
                clear hx hy
                go_wp2_with fail
                go_region
                clear c11 c12 c21 c22 f11 f12 f21 f22 g3 g4
                generalize ((((wc.setCell ⟨blk, off + (i3) * 2, none⟩ (.int .i64 y1)).setCell ⟨blk, off + (i3) * 2 + 1, none⟩ (.int .i64 y2)).setCell ⟨blk, off + (j3) * 2, none⟩ (.int .i64 x1)).setCell ⟨blk, off + (j3) * 2 + 1, none⟩ (.int .i64 x2)).drew = w8 at S8 ⊢
                clear bi9 ri9 bj9 rj9
                go_wp2_with fail
                go_roundg (j3 - 1)
                case measure => omega
                case rel => exact ⟨i3 + 1, j3 - 1, swp dl i3 j3, by go_num, by go_num, by omega, by omega, by omega, Nat.le_refl _, by rw [size_swp]; exact hsl, S8, HL.out.trans (part_go (ltC cf) a k l dl Hi3.out Hj3.out (by omega))⟩
end Go.Proofs.YtglgmkikegbchaaGreat
