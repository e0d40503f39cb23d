/- Texts of this claim, laid together: WcInsertionSort, WfInsertionSort, WoInsertionSort. -/
import Derived.Test.YtglgmkikegbchaaGreatGK
/- insertionSort: the text by a function that compares, over elements of two cells. -/
namespace Go.Proofs.YtglgmkikegbchaaGreat
open Go.RowKit Go.Sort

set_option maxHeartbeats 4000000 in
set_option maxRecDepth 1000000 in
theorem insertionSort_c (O : Value) (cf : It → It → Int) (hC : CmpC O cf) (w0 : World) (blk off cap n : Nat) (d : Array It) (w : World) (S : St2 w0 blk off d w) (hn : d.size = n) (hsz : n < 4611686018427387904) (a b : Nat) (hab : a ≤ b) (hb : b ≤ n) :
    Calls Tryz.prog 124 #[.slice (some ⟨blk, off, none⟩) n cap, .int .i64 a, .int .i64 b, .func (.func 43) #[O] #[]] w fun e w' =>
      e = .returned (.tuple #[]) ∧ St2 w0 blk off (insertionSort (ltC cf) d a b) w' := by
  have mixed : Tryz.prog.follows .mixedOrders = true := by kernel_rfl
  have HC : Aside (CmpC O cf) := hC
  have S0 : Aside (St2 w0 blk off d w) := S
  clear S
  go_enter Tryz.func124, Tryz.ntmps124
  go_wp2
  go_loopg [8] (b - a) (fun g vi wr => ∃ (i : Nat) (dk : Array It), vi = .int .i64 i ∧ a < i ∧ i ≤ b + 1 ∧ b + 1 - i ≤ g + 1 ∧ dk.size = n ∧ Aside (St2 w0 blk off dk wr) ∧ Hid (insOuter (ltC cf) a b i dk = insOuter (ltC cf) a b (a + 1) d))
  case atStart => exact ⟨a + 1, d, by go_num, by omega, by omega, by omega, hn, S0, rfl⟩
  case round =>
    obtain ⟨i, dk, rfl, hai, hib, hg, hsk, Sk, HO⟩ := hrel
    by_cases hlt : i < b
    · have hltz : (i : Int) < (b : Int) := by omega
      go_wp2
      go_loopg [9] i (fun g2 vj wj => ∃ (j : Nat) (dj : Array It), vj = .int .i64 j ∧ a ≤ j ∧ j ≤ i ∧ j ≤ g2 ∧ dj.size = n ∧ Aside (St2 w0 blk off dj wj) ∧ Hid (insInner (ltC cf) a j dj = insInner (ltC cf) a i dk))
      case atStart => exact ⟨i, dk, rfl, by omega, Nat.le_refl _, Nat.le_refl _, hsk, Sk, rfl⟩
      case round =>
        obtain ⟨j, dj, rfl, haj, hji, hg2, hsj, Sj, HI⟩ := hrel
        have OUT : Aside ((j ≤ a ∨ (ltC cf) dj[j]! dj[j - 1]! = false) → Hid (insOuter (ltC cf) a b (i + 1) dj = insOuter (ltC cf) a b (a + 1) d)) := fun hs => by
          show _ = _
          rw [← HO.out, insO_go _ _ _ _ hlt, ← HI.out, insI_stop _ _ _ hs]
        clear Sk
        by_cases hja : a < j
        · obtain ⟨jp, rfl⟩ : ∃ jp, j = jp + 1 := ⟨j - 1, by omega⟩
          have hjaz' : (a : Int) < (jp : Int) + 1 := by omega
          have bi1 : (jp : Int) + 1 < (n : Int) := by omega
          have ri1 : IntKind.i64.wrap ((jp : Int) + 1) = (jp : Int) + 1 := by rw [IntKind.wrap_i64]; omega
          have pi1 : (0 : Int) ≤ (jp : Int) + 1 := by omega
          have ei1 : ((jp : Int) + 1).toNat = jp + 1 := by omega
          have bj1 : (jp : Int) < (n : Int) := by omega
          have rj1 : IntKind.i64.wrap ((jp : Int)) = (jp : Int) := by rw [IntKind.wrap_i64]; omega
          obtain ⟨⟨x1, x2⟩, hx⟩ : ∃ x : It, x = dj[jp + 1]! := ⟨_, rfl⟩
          obtain ⟨⟨y1, y2⟩, hy⟩ : ∃ y : It, y = dj[jp]! := ⟨_, rfl⟩
          have c11 := fun n' os => (Sj.out.cells (i := jp + 1) (by omega) hx n' os).1
          have c12 := fun n' os => (Sj.out.cells (i := jp + 1) (by omega) hx n' os).2
          have c21 := fun n' os => (Sj.out.cells (i := jp) (by omega) hy n' os).1
          have c22 := fun n' os => (Sj.out.cells (i := jp) (by omega) hy n' os).2
          have hcc := CmpC.out HC (x1, x2) (y1, y2)
          dsimp only [vIt] at c11 c12 c21 c22 hcc
          obtain ⟨c, hc⟩ : ∃ c, c = cf (x1, x2) (y1, y2) := ⟨_, rfl⟩
          rw [← hc] at hcc
          have HV : Aside (ltC cf dj[jp + 1]! dj[jp]! = decide (c < 0)) := by show ltC cf _ _ = _; rw [← hx, ← hy, hc]; rfl
          clear hx hy hc
          by_cases hcl : c < 0
          · have hcd : decide (c < 0) = true := decide_eq_true hcl
            replace HV := HV.out.trans hcd
            have HV' : Aside _ := HV
            clear HV
            go_wp2_with fail
            go_quiet_grown (first | (go_at_call 43; refine Calls.grown_of (hcc _)))
            have S2 : Aside _ := Sj.out.grow nq osq
            clear c11 c12 c21 c22 hcc
            generalize grow (wr.drewN nq) osq = w2 at S2 ⊢
            clear nq osq
            clear bi1 ri1 pi1 ei1 bj1 rj1
            have bi2 : (jp : Int) + 1 < (n : Int) := by omega
            have ri2 : IntKind.i64.wrap ((jp : Int) + 1) = (jp : Int) + 1 := by rw [IntKind.wrap_i64]; omega
            have pi2 : (0 : Int) ≤ (jp : Int) + 1 := by omega
            have ei2 : ((jp : Int) + 1).toNat = jp + 1 := by omega
            have bj2 : (jp : Int) < (n : Int) := by omega
            have rj2 : IntKind.i64.wrap ((jp : Int)) = (jp : Int) := by rw [IntKind.wrap_i64]; omega
            obtain ⟨⟨x1, x2⟩, hx⟩ : ∃ x : It, x = dj[jp + 1]! := ⟨_, rfl⟩
            obtain ⟨⟨y1, y2⟩, hy⟩ : ∃ y : It, y = dj[jp]! := ⟨_, rfl⟩
            obtain ⟨c11, c12, f11, f12⟩ := S2.out.holds (jp + 1) (by omega)
            obtain ⟨c21, c22, f21, f22⟩ := S2.out.holds (jp) (by omega)
            rw [← hx] at c11 c12
            rw [← hy] at c21 c22
            dsimp only at c11 c12 c21 c22
            obtain ⟨u3, g3⟩ := S2.out.third (jp + 1) (jp) (by omega) (by omega) (.int .i64 y1) (.int .i64 y2)
            obtain ⟨u4, g4⟩ := S2.out.fourth (jp + 1) (jp) (by omega) (by omega) (.int .i64 y1) (.int .i64 y2) (.int .i64 x1)
            have S3 : Aside _ := (S2.out.swap (by omega) (by omega) hx hy).drew
            dsimp only at S3
            clear hx hy
            go_wp2_with fail
            go_region
            clear c11 c12 c21 c22 f11 f12 f21 f22 g3 g4
            generalize ((((w2.setCell ⟨blk, off + (jp + 1) * 2, none⟩ (.int .i64 y1)).setCell ⟨blk, off + (jp + 1) * 2 + 1, none⟩ (.int .i64 y2)).setCell ⟨blk, off + (jp) * 2, none⟩ (.int .i64 x1)).setCell ⟨blk, off + (jp) * 2 + 1, none⟩ (.int .i64 x2)).drew = w3 at S3 ⊢
            clear bi2 ri2 pi2 ei2 bj2 rj2
            go_wp2_with fail
            go_roundg jp
            case measure => omega
            case rel =>
              refine ⟨jp, swp dj (jp + 1) jp, rfl, by omega, by omega, by omega, by rw [size_swp]; exact hsj, S3, ?_⟩
              show _ = _
              rw [← HI.out, insI_go _ _ _ hja HV'.out]
          · have hcd : decide (c < 0) = false := decide_eq_false hcl
            replace HV := HV.out.trans hcd
            have HV' : Aside _ := HV
            clear HV
            go_wp2_with fail
            go_quiet_grown (first | (go_at_call 43; refine Calls.grown_of (hcc _)))
            have S2 : Aside _ := Sj.out.grow nq osq
            clear c11 c12 c21 c22 hcc
            generalize grow (wr.drewN nq) osq = w2 at S2 ⊢
            clear nq osq
            clear bi1 ri1 pi1 ei1 bj1 rj1
            go_wp2_with fail
            go_roundg (b - (i + 1))
            case measure => omega
            case rel => exact ⟨i + 1, dj, by go_num, by omega, by omega, by omega, hsj, S2, OUT.out (Or.inr HV'.out)⟩
        · have hjaz : decide ((a : Int) < (j : Int)) = false := by refine decide_eq_false ?_; omega
          go_wp2_with fail
          go_quiet (fail)
          have S2 : Aside _ := Sj.out.drewN nq
          generalize wr.drewN nq = w2 at S2 ⊢
          clear nq
          go_wp2_with fail
          go_roundg (b - (i + 1))
          case measure => omega
          case rel => exact ⟨i + 1, dj, by go_num, by omega, by omega, by omega, hsj, S2, OUT.out (Or.inl (by omega))⟩
    · have hltz : ¬ (i : Int) < (b : Int) := by omega
      go_wp2
      go_end0
      exact ⟨rfl, by unfold insertionSort; rw [← HO.out, insO_stop _ _ _ _ hlt]; exact Sk.out⟩
end Go.Proofs.YtglgmkikegbchaaGreat

/- insertionSort: the text over an Interface. -/
namespace Go.Proofs.YtglgmkikegbchaaGreat
open Go.RowKit Go.Sort

set_option maxHeartbeats 4000000 in
set_option maxRecDepth 1000000 in
theorem insertionSort_f (T : TypeId) (rv : Value) (lt : It → It → Bool) (gl gs : Nat) (rl rs : Value) (w0 : World) (blk off n : Nat) (F : FaceOk T rv lt w0 blk off n gl gs rl rs) (d : Array It) (w : World) (S : St2 w0 blk off d w) (hn : d.size = n) (hsz : n < 4611686018427387904) (a b : Nat) (hab : a ≤ b) (hb : b ≤ n) :
    Calls Tryz.prog 139 #[.iface T rv, .int .i64 a, .int .i64 b] w fun e w' =>
      e = .returned (.tuple #[]) ∧ St2 w0 blk off (insertionSort lt d a b) w' := by
  have eL := F.eL
  have eS := F.eS
  have S0 : Aside (St2 w0 blk off d w) := S
  clear S
  go_enter Tryz.func139, Tryz.ntmps139
  go_wp2
  go_loopg [6] (b - a) (fun g vi wr => ∃ (i : Nat) (dk : Array It), vi = .int .i64 i ∧ a < i ∧ i ≤ b + 1 ∧ b + 1 - i ≤ g + 1 ∧ dk.size = n ∧ Aside (St2 w0 blk off dk wr) ∧ Hid (insOuter lt a b i dk = insOuter lt a b (a + 1) d))
  case atStart => exact ⟨a + 1, d, by go_num, by omega, by omega, by omega, hn, S0, rfl⟩
  case round =>
    obtain ⟨i, dk, rfl, hai, hib, hg, hsk, Sk, HO⟩ := hrel
    by_cases hlt : i < b
    · have hltz : (i : Int) < (b : Int) := by omega
      go_wp2
      go_loopg [7] i (fun g2 vj wj => ∃ (j : Nat) (dj : Array It), vj = .int .i64 j ∧ a ≤ j ∧ j ≤ i ∧ j ≤ g2 ∧ dj.size = n ∧ Aside (St2 w0 blk off dj wj) ∧ Hid (insInner lt a j dj = insInner lt a i dk))
      case atStart => exact ⟨i, dk, rfl, by omega, Nat.le_refl _, Nat.le_refl _, hsk, Sk, rfl⟩
      case round =>
        obtain ⟨j, dj, rfl, haj, hji, hg2, hsj, Sj, HI⟩ := hrel
        have OUT : Aside ((j ≤ a ∨ lt dj[j]! dj[j - 1]! = false) → Hid (insOuter lt a b (i + 1) dj = insOuter lt a b (a + 1) d)) := fun hs => by
          show _ = _
          rw [← HO.out, insO_go _ _ _ _ hlt, ← HI.out, insI_stop _ _ _ hs]
        clear Sk
        by_cases hja : a < j
        · obtain ⟨jp, rfl⟩ : ∃ jp, j = jp + 1 := ⟨j - 1, by omega⟩
          have hjaz' : (a : Int) < (jp : Int) + 1 := by omega
          have mL := F.methL _ wr Sj.out
          have mS := F.methS _ wr Sj.out
          have hl := F.less dj wr (jp + 1) (jp) (by omega) Sj.out (by omega) (by omega)
          rw [show ((jp + 1 : Nat) : Int) = (jp : Int) + 1 by omega] at hl
          obtain ⟨c, hc⟩ : ∃ c, c = lt dj[jp + 1]! dj[jp]! := ⟨_, rfl⟩
          rw [← hc] at hl
          have HV : Aside (lt dj[jp + 1]! dj[jp]! = c) := hc.symm
          clear hc
          cases c with
          | true =>
            have HV' : Aside _ := HV
            clear HV
            go_wp2_with fail
            refine hl.mono ?_
            rintro e w' ⟨rfl, q, os, rfl⟩
            have S2 : Aside _ := Sj.out.grow q os
            clear mL mS hl
            generalize grow (wr.drewN q) os = w2 at S2 ⊢
            clear q os
            have mL := F.methL _ w2 S2.out
            have mS := F.methS _ w2 S2.out
            have hs := F.swap dj w2 (jp + 1) (jp) (by omega) S2.out (by omega) (by omega)
            rw [show ((jp + 1 : Nat) : Int) = (jp : Int) + 1 by omega] at hs
            go_wp2_with fail
            refine hs.mono ?_
            rintro e w3 ⟨rfl, S3q, hgr⟩
            have S3 : Aside _ := S3q
            clear mL mS hs hgr S3q
            have mL := F.methL _ w3 S3.out
            have mS := F.methS _ w3 S3.out
            go_wp2_with fail
            go_roundg jp
            case measure => omega
            case rel =>
              refine ⟨jp, swp dj (jp + 1) jp, rfl, by omega, by omega, by omega, by rw [size_swp]; exact hsj, S3, ?_⟩
              show _ = _
              rw [← HI.out, insI_go _ _ _ hja HV'.out]
          | false =>
            have HV' : Aside _ := HV
            clear HV
            go_wp2_with fail
            refine hl.mono ?_
            rintro e w' ⟨rfl, q, os, rfl⟩
            have S2 : Aside _ := Sj.out.grow q os
            clear mL mS hl
            generalize grow (wr.drewN q) os = w2 at S2 ⊢
            clear q os
            have mL := F.methL _ w2 S2.out
            have mS := F.methS _ w2 S2.out
            go_wp2_with fail
            go_roundg (b - (i + 1))
            case measure => omega
            case rel => exact ⟨i + 1, dj, by go_num, by omega, by omega, by omega, hsj, S2, OUT.out (Or.inr HV'.out)⟩
        · have hjaz : ¬ (a : Int) < (j : Int) := by omega
          go_wp2_with fail
          go_roundg (b - (i + 1))
          case measure => omega
          case rel => exact ⟨i + 1, dj, by go_num, by omega, by omega, by omega, hsj, Sj, OUT.out (Or.inl (by omega))⟩
    · have hltz : ¬ (i : Int) < (b : Int) := by omega
      go_wp2
      go_end0
      exact ⟨rfl, by unfold insertionSort; rw [← HO.out, insO_stop _ _ _ _ hlt]; exact Sk.out⟩
end Go.Proofs.YtglgmkikegbchaaGreat

/- insertionSort: the text over the keys alone. -/
namespace Go.Proofs.YtglgmkikegbchaaGreat
open Go.RowKit Go.Sort

set_option maxHeartbeats 4000000 in
set_option maxRecDepth 1000000 in
theorem insertionSort_o (w0 : World) (blk off cap n : Nat) (d : Array Int) (w : World) (S : St1 e64 w0 blk off d w) (hn : d.size = n) (hsz : n < 4611686018427387904) (a b : Nat) (hab : a ≤ b) (hb : b ≤ n) :
    Calls Tryz.prog 154 #[.slice (some ⟨blk, off, none⟩) n cap, .int .i64 a, .int .i64 b] w fun e w' =>
      e = .returned (.tuple #[]) ∧ St1 e64 w0 blk off (insertionSort ltInt d a b) w' := by
  have S0 : Aside (St1 e64 w0 blk off d w) := S
  clear S
  go_enter Tryz.func154, Tryz.ntmps154
  go_wp2
  go_loopg [6] (b - a) (fun g vi wr => ∃ (i : Nat) (dk : Array Int), vi = .int .i64 i ∧ a < i ∧ i ≤ b + 1 ∧ b + 1 - i ≤ g + 1 ∧ dk.size = n ∧ Aside (St1 e64 w0 blk off dk wr) ∧ Hid (insOuter ltInt a b i dk = insOuter ltInt a b (a + 1) d))
  case atStart => exact ⟨a + 1, d, by go_num, by omega, by omega, by omega, hn, S0, rfl⟩
  case round =>
    obtain ⟨i, dk, rfl, hai, hib, hg, hsk, Sk, HO⟩ := hrel
    by_cases hlt : i < b
    · have hltz : (i : Int) < (b : Int) := by omega
      go_wp2
      go_loopg [7] i (fun g2 vj wj => ∃ (j : Nat) (dj : Array Int), vj = .int .i64 j ∧ a ≤ j ∧ j ≤ i ∧ j ≤ g2 ∧ dj.size = n ∧ Aside (St1 e64 w0 blk off dj wj) ∧ Hid (insInner ltInt a j dj = insInner ltInt a i dk))
      case atStart => exact ⟨i, dk, rfl, by omega, Nat.le_refl _, Nat.le_refl _, hsk, Sk, rfl⟩
      case round =>
        obtain ⟨j, dj, rfl, haj, hji, hg2, hsj, Sj, HI⟩ := hrel
        have OUT : Aside ((j ≤ a ∨ ltInt dj[j]! dj[j - 1]! = false) → Hid (insOuter ltInt a b (i + 1) dj = insOuter ltInt a b (a + 1) d)) := fun hs => by
          show _ = _
          rw [← HO.out, insO_go _ _ _ _ hlt, ← HI.out, insI_stop _ _ _ hs]
        clear Sk
        by_cases hja : a < j
        · obtain ⟨jp, rfl⟩ : ∃ jp, j = jp + 1 := ⟨j - 1, by omega⟩
          have hjaz' : (a : Int) < (jp : Int) + 1 := by omega
          have bi1 : (jp : Int) + 1 < (n : Int) := by omega
          have pi1 : (0 : Int) ≤ (jp : Int) + 1 := by omega
          have ei1 : ((jp : Int) + 1).toNat = jp + 1 := by omega
          have bj1 : (jp : Int) < (n : Int) := by omega
          obtain ⟨x, hx⟩ : ∃ x, x = dj[jp + 1]! := ⟨_, rfl⟩
          obtain ⟨y, hy⟩ : ∃ y, y = dj[jp]! := ⟨_, rfl⟩
          have c1 : wr.cell? ⟨blk, off + (jp + 1), none⟩ = some (.int .i64 x) := by rw [hx]; exact Sj.out.cell (by omega)
          have c2 : wr.cell? ⟨blk, off + (jp), none⟩ = some (.int .i64 y) := by rw [hy]; exact Sj.out.cell (by omega)
          have hless : ∀ c W, ltInt x y = c → Calls Tryz.prog 178 #[.int .i64 x, .int .i64 y] W fun e w' => e = .returned (.bool c) ∧ w' = W := fun c W hc => by rw [← hc]; exact less_o x y W
          obtain ⟨c, hc⟩ : ∃ c, c = ltInt x y := ⟨_, rfl⟩
          have HV : Aside (ltInt dj[jp + 1]! dj[jp]! = c) := by show ltInt _ _ = _; rw [← hx, ← hy, hc]
          replace hless := fun W => hless c W hc.symm
          clear hx hy hc
          cases c with
          | true =>
            have HV' : Aside _ := HV
            clear HV
            go_wp2_with fail
            go_quiet (first | (go_at_call 178; refine Calls.quiet_of_same (hless _)))
            have S2 : Aside _ := Sj.out.drewN nq
            clear c1 c2 hless
            generalize wr.drewN nq = w2 at S2 ⊢
            clear nq
            clear bi1 pi1 ei1 bj1
            have bi2 : (jp : Int) + 1 < (n : Int) := by omega
            have pi2 : (0 : Int) ≤ (jp : Int) + 1 := by omega
            have ei2 : ((jp : Int) + 1).toNat = jp + 1 := by omega
            have bj2 : (jp : Int) < (n : Int) := by omega
            obtain ⟨x, hx⟩ : ∃ x, x = dj[jp + 1]! := ⟨_, rfl⟩
            obtain ⟨y, hy⟩ : ∃ y, y = dj[jp]! := ⟨_, rfl⟩
            have c1 : w2.cell? ⟨blk, off + (jp + 1), none⟩ = some (.int .i64 x) := by rw [hx]; exact S2.out.cell (by omega)
            have c2 : w2.cell? ⟨blk, off + (jp), none⟩ = some (.int .i64 y) := by rw [hy]; exact S2.out.cell (by omega)
            have f1 : w2.frozen? ⟨blk, off + (jp + 1), none⟩ = false := S2.out.frozen (by omega)
            have f2 : w2.frozen? ⟨blk, off + (jp), none⟩ = false := S2.out.frozen (by omega)
            obtain ⟨u2, g2⟩ := S2.out.second (jp + 1) (jp) (by omega) (by omega) (.int .i64 y)
            have S3 : Aside _ := (S2.out.swap (by omega) (by omega) hx hy).drew
            clear hx hy
            go_wp2_with fail
            go_region
            clear c1 c2 f1 f2 g2
            generalize ((w2.setCell ⟨blk, off + (jp + 1), none⟩ (.int .i64 y)).setCell ⟨blk, off + (jp), none⟩ (.int .i64 x)).drew = w3 at S3 ⊢
            clear bi2 pi2 ei2 bj2
            go_wp2_with fail
            go_roundg jp
            case measure => omega
            case rel =>
              refine ⟨jp, swp dj (jp + 1) jp, rfl, by omega, by omega, by omega, by rw [size_swp]; exact hsj, S3, ?_⟩
              show _ = _
              rw [← HI.out, insI_go _ _ _ hja HV'.out]
          | false =>
            have HV' : Aside _ := HV
            clear HV
            go_wp2_with fail
            go_quiet (first | (go_at_call 178; refine Calls.quiet_of_same (hless _)))
            have S2 : Aside _ := Sj.out.drewN nq
            clear c1 c2 hless
            generalize wr.drewN nq = w2 at S2 ⊢
            clear nq
            clear bi1 pi1 ei1 bj1
            go_wp2_with fail
            go_roundg (b - (i + 1))
            case measure => omega
            case rel => exact ⟨i + 1, dj, by go_num, by omega, by omega, by omega, hsj, S2, OUT.out (Or.inr HV'.out)⟩
        · have hjaz : decide ((a : Int) < (j : Int)) = false := by refine decide_eq_false ?_; omega
          go_wp2_with fail
          go_quiet (fail)
          have S2 : Aside _ := Sj.out.drewN nq
          generalize wr.drewN nq = w2 at S2 ⊢
          clear nq
          go_wp2_with fail
          go_roundg (b - (i + 1))
          case measure => omega
          case rel => exact ⟨i + 1, dj, by go_num, by omega, by omega, by omega, hsj, S2, OUT.out (Or.inl (by omega))⟩
    · have hltz : ¬ (i : Int) < (b : Int) := by omega
      go_wp2
      go_end0
      exact ⟨rfl, by unfold insertionSort; rw [← HO.out, insO_stop _ _ _ _ hlt]; exact Sk.out⟩
end Go.Proofs.YtglgmkikegbchaaGreat
