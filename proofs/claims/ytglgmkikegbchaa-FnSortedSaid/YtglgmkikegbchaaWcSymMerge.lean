/- symMerge: the text by a function that compares, over elements of two cells. -/
import Derived.Test.YtglgmkikegbchaaWc0
import Derived.Test.YtglgmkikegbchaaPb
import Derived.Test.YtglgmkikegbchaaWcRotate
import Derived.Test.YtglgmkikegbchaaPg
namespace Go.Proofs.Ytglgmkikegbchaa
open Go.RowKit Go.Sort

set_option maxHeartbeats 16000000 in
set_option maxRecDepth 1000000 in
theorem symMergeN_c (O : Value) (cf : It → It → Int) (hC : CmpC O cf) (w0 : World) (blk off cap n : Nat) (hsz : n < 4611686018427387904) : ∀ (N a m b : Nat) (d : Array It) (w : World), b - a < N → St2 w0 blk off d w → d.size = n → a < m → m < b → b ≤ n →
    Calls Try.prog 104 #[.slice (some ⟨blk, off, none⟩) n cap, .int .i64 a, .int .i64 m, .int .i64 b, .func (.func 36) #[O] #[]] w fun e w' => e = .returned (.tuple #[]) ∧ St2 w0 blk off (symMerge (ltC cf) d a m b) w' := by
  have mixed : Try.prog.follows .mixedOrders = true := by kernel_rfl
  have HC : Aside (CmpC O cf) := hC
  intro N
  induction N with
  | zero => intro a m b d w h; omega
  | succ N ih =>
    intro a m b d w hN S hn ham hmb hb
    have IH : Aside _ := ih
    clear ih
    have S0 : Aside (St2 w0 blk off d w) := S
    clear S
    by_cases h1 : m - a = 1
    · have h1z : (m : Int) - (a : Int) = 1 := by omega
      have HR : Hid (symMerge (ltC cf) d a m b = upLoop (bsearch (fun h => (ltC cf) d[h]! d[a]!) m b - 1 - a) a d) := by show _ = _; rw [symMerge, if_pos h1]
      generalize symMerge (ltC cf) d a m b = R at HR ⊢
      go_enter Try.func104, Try.ntmps104
      go_wp2_with fail
      go_loopg [10, 11] (b - m) (fun g vi vj wr => ∃ i j : Nat, vi = .int .i64 i ∧ vj = .int .i64 j ∧ m ≤ i ∧ i ≤ j ∧ j ≤ b ∧ j - i ≤ g ∧ Aside (St2 w0 blk off d wr) ∧ Hid (bsearch (fun h => (ltC cf) d[h]! d[a]!) i j = bsearch (fun h => (ltC cf) d[h]! d[a]!) (m) (b)))
      case atStart => exact ⟨m, b, by go_num, by go_num, Nat.le_refl _, by omega, Nat.le_refl _, Nat.le_refl _, S0, rfl⟩
      case round =>
        obtain ⟨i, j, rfl, rfl, hli, hij, hjh, hg, Sk, HP⟩ := hrel
        by_cases hlt : i < j
        · have hltz : (i : Int) < (j : Int) := by omega
          obtain ⟨M, hM⟩ : ∃ M, M = (i + j) / 2 := ⟨_, rfl⟩
          have hMz : ((i : Int) + (j : Int)) / 2 = (M : Int) := by omega
          have hM1 : i ≤ M := by omega
          have hM2 : M < j := by omega
          have HM : Aside (M = (i + j) / 2) := hM
          clear hM
          have bi1 : (M : Int) < (n : Int) := by omega
          have ri1 : IntKind.i64.wrap ((M : Int)) = (M : Int) := by rw [IntKind.wrap_i64]; omega
          have bj1 : (a : Int) < (n : Int) := by omega
          have rj1 : IntKind.i64.wrap ((a : Int)) = (a : Int) := by rw [IntKind.wrap_i64]; omega
          obtain ⟨⟨x1, x2⟩, hx⟩ : ∃ x : It, x = d[M]! := ⟨_, rfl⟩
          obtain ⟨⟨y1, y2⟩, hy⟩ : ∃ y : It, y = d[a]! := ⟨_, rfl⟩
          have c11 := fun n' os => (Sk.out.cells (i := M) (by omega) hx n' os).1
          have c12 := fun n' os => (Sk.out.cells (i := M) (by omega) hx n' os).2
          have c21 := fun n' os => (Sk.out.cells (i := a) (by omega) hy n' os).1
          have c22 := fun n' os => (Sk.out.cells (i := a) (by omega) hy n' os).2
          have hcc := CmpC.out HC (x1, x2) (y1, y2)
          dsimp only [vIt] at c11 c12 c21 c22 hcc
          obtain ⟨c, hc⟩ : ∃ c, c = cf (x1, x2) (y1, y2) := ⟨_, rfl⟩
          rw [← hc] at hcc
          have HV : Aside (ltC cf d[M]! d[a]! = decide (c < 0)) := by show ltC cf _ _ = _; rw [← hx, ← hy, hc]; rfl
          clear hx hy hc
          by_cases hcl : c < 0
          · have hcd : decide (c < 0) = true := decide_eq_true hcl
            replace HV := HV.out.trans hcd
            have HV' : Aside _ := HV
            clear HV
            go_wp2_with fail
            go_quiet_grown (first | (go_at_call 36; refine Calls.grown_of (hcc _)))
            have S2 : Aside _ := Sk.out.grow nq osq
            clear c11 c12 c21 c22 hcc
            generalize grow (wr.drewN nq) osq = w2 at S2 ⊢
            clear nq osq
            clear bi1 ri1 bj1 rj1
            go_wp2_with fail
            go_roundg (j - (M + 1))
            case measure => omega
            case rel => exact ⟨M + 1, j, by go_num, rfl, by omega, by omega, hjh, Nat.le_refl _, S2, by show _ = _; rw [← HP.out]; conv => rhs; rw [bsearch, dif_pos hlt, ← HM.out, if_pos (by exact HV'.out)]⟩
          · have hcd : decide (c < 0) = false := decide_eq_false hcl
            replace HV := HV.out.trans hcd
            have HV' : Aside _ := HV
            clear HV
            go_wp2_with fail
            go_quiet_grown (first | (go_at_call 36; refine Calls.grown_of (hcc _)))
            have S2 : Aside _ := Sk.out.grow nq osq
            clear c11 c12 c21 c22 hcc
            generalize grow (wr.drewN nq) osq = w2 at S2 ⊢
            clear nq osq
            clear bi1 ri1 bj1 rj1
            go_wp2_with fail
            go_roundg (M - i)
            case measure => omega
            case rel => exact ⟨i, M, rfl, rfl, hli, hM1, by omega, Nat.le_refl _, S2, by show _ = _; rw [← HP.out]; conv => rhs; rw [bsearch, dif_pos hlt, ← HM.out, if_neg (by rw [HV'.out]; exact Bool.false_ne_true)]⟩
        · have hltz : ¬ (i : Int) < (j : Int) := by omega
          obtain rfl : j = i := by omega
          have hPb : bsearch (fun h => (ltC cf) d[h]! d[a]!) (m) (b) = j := by rw [← HP.out, bsearch, dif_neg (by omega)]
          have HPb : Aside _ := hPb
          clear hPb HP
          obtain ⟨P, rfl⟩ : ∃ P, j = P + 1 := ⟨j - 1, by omega⟩
          rw [HPb.out, Nat.add_sub_cancel] at HR
          go_wp2_with fail
          go_loopg [13] (P - a) (fun g vk wr => ∃ (k : Nat) (dk : Array It), vk = .int .i64 k ∧ a ≤ k ∧ k ≤ P ∧ P - k ≤ g ∧ dk.size = n ∧ Aside (St2 w0 blk off dk wr) ∧ Hid (upLoop (P - k) k dk = R))
          case atStart => exact ⟨a, d, rfl, Nat.le_refl _, by omega, Nat.le_refl _, hn, Sk, HR.out.symm⟩
          case round =>
            clear Sk
            obtain ⟨k, dk, rfl, hak, hkP, hgk, hsk, Sk, HU⟩ := hrel
            by_cases hk : k < P
            · have hkz : (k : Int) < (P : Int) := by omega
              have bi2 : (k : Int) < (n : Int) := by omega
              have ri2 : IntKind.i64.wrap ((k : Int)) = (k : Int) := by rw [IntKind.wrap_i64]; omega
              have bj2 : (k : Int) + 1 < (n : Int) := by omega
              have rj2 : IntKind.i64.wrap ((k : Int) + 1) = (k : Int) + 1 := by rw [IntKind.wrap_i64]; omega
              have pj2 : (0 : Int) ≤ (k : Int) + 1 := by omega
              have ej2 : ((k : Int) + 1).toNat = k + 1 := by omega
              obtain ⟨⟨x1, x2⟩, hx⟩ : ∃ x : It, x = dk[k]! := ⟨_, rfl⟩
              obtain ⟨⟨y1, y2⟩, hy⟩ : ∃ y : It, y = dk[k + 1]! := ⟨_, rfl⟩
              obtain ⟨c11, c12, f11, f12⟩ := Sk.out.holds (k) (by omega)
              obtain ⟨c21, c22, f21, f22⟩ := Sk.out.holds (k + 1) (by omega)
              rw [← hx] at c11 c12
              rw [← hy] at c21 c22
              dsimp only at c11 c12 c21 c22
              obtain ⟨u3, g3⟩ := Sk.out.third (k) (k + 1) (by omega) (by omega) (.int .i64 y1) (.int .i64 y2)
              obtain ⟨u4, g4⟩ := Sk.out.fourth (k) (k + 1) (by omega) (by omega) (.int .i64 y1) (.int .i64 y2) (.int .i64 x1)
              have S2 : Aside _ := (Sk.out.swap (by omega) (by omega) hx hy).drew
              dsimp only at S2
              clear hx hy
              go_wp2_with fail
              go_region
              clear c11 c12 c21 c22 f11 f12 f21 f22 g3 g4
              generalize ((((wr.setCell ⟨blk, off + (k) * 2, none⟩ (.int .i64 y1)).setCell ⟨blk, off + (k) * 2 + 1, none⟩ (.int .i64 y2)).setCell ⟨blk, off + (k + 1) * 2, none⟩ (.int .i64 x1)).setCell ⟨blk, off + (k + 1) * 2 + 1, none⟩ (.int .i64 x2)).drew = w2 at S2 ⊢
              clear bi2 ri2 bj2 rj2 pj2 ej2
              go_wp2_with fail
              go_roundg (P - (k + 1))
              case measure => omega
              case rel => exact ⟨k + 1, swp dk k (k + 1), by go_num, by omega, by omega, Nat.le_refl _, by rw [size_swp]; exact hsk, S2, by show _ = _; rw [← HU.out, show P - k = (P - (k + 1)) + 1 by omega]; rfl⟩
            · have hkz : ¬ (k : Int) < (P : Int) := by omega
              obtain rfl : k = P := by omega
              have hB : dk = R := by have := HU.out; rwa [Nat.sub_self] at this
              subst hB
              go_wp2_with fail
              (try simp only [Exit.inBlock, Exit.then]); refine bodyPost_ret (results_none rfl _ _ _) rfl ?_
              exact ⟨rfl, Sk.out⟩
    · have h1z : ¬ (m : Int) - (a : Int) = 1 := by omega
      have h1e : ((m : Int) - (a : Int) == 1) = false := by rw [beq_eq_false_iff_ne]; omega
      by_cases h2 : b - m = 1
      · have h2z : (b : Int) - (m : Int) = 1 := by omega
        have HR : Hid (symMerge (ltC cf) d a m b = downLoop (m - bsearch (fun h => !(ltC cf) d[m]! d[h]!) a m) m d) := by show _ = _; rw [symMerge, if_neg h1, if_pos h2]
        generalize symMerge (ltC cf) d a m b = R at HR ⊢
        go_enter Try.func104, Try.ntmps104
        go_wp2_with fail
        go_loopg [14, 15] (m - a) (fun g vi vj wr => ∃ i j : Nat, vi = .int .i64 i ∧ vj = .int .i64 j ∧ a ≤ i ∧ i ≤ j ∧ j ≤ m ∧ j - i ≤ g ∧ Aside (St2 w0 blk off d wr) ∧ Hid (bsearch (fun h => !(ltC cf) d[m]! d[h]!) i j = bsearch (fun h => !(ltC cf) d[m]! d[h]!) (a) (m)))
        case atStart => exact ⟨a, m, by go_num, by go_num, Nat.le_refl _, by omega, Nat.le_refl _, Nat.le_refl _, S0, rfl⟩
        case round =>
          obtain ⟨i, j, rfl, rfl, hli, hij, hjh, hg, Sk, HP⟩ := hrel
          by_cases hlt : i < j
          · have hltz : (i : Int) < (j : Int) := by omega
            obtain ⟨M, hM⟩ : ∃ M, M = (i + j) / 2 := ⟨_, rfl⟩
            have hMz : ((i : Int) + (j : Int)) / 2 = (M : Int) := by omega
            have hM1 : i ≤ M := by omega
            have hM2 : M < j := by omega
            have HM : Aside (M = (i + j) / 2) := hM
            clear hM
            have bi3 : (m : Int) < (n : Int) := by omega
            have ri3 : IntKind.i64.wrap ((m : Int)) = (m : Int) := by rw [IntKind.wrap_i64]; omega
            have bj3 : (M : Int) < (n : Int) := by omega
            have rj3 : IntKind.i64.wrap ((M : Int)) = (M : Int) := by rw [IntKind.wrap_i64]; omega
            obtain ⟨⟨x1, x2⟩, hx⟩ : ∃ x : It, x = d[m]! := ⟨_, rfl⟩
            obtain ⟨⟨y1, y2⟩, hy⟩ : ∃ y : It, y = d[M]! := ⟨_, rfl⟩
            have c11 := fun n' os => (Sk.out.cells (i := m) (by omega) hx n' os).1
            have c12 := fun n' os => (Sk.out.cells (i := m) (by omega) hx n' os).2
            have c21 := fun n' os => (Sk.out.cells (i := M) (by omega) hy n' os).1
            have c22 := fun n' os => (Sk.out.cells (i := M) (by omega) hy n' os).2
            have hcc := CmpC.out HC (x1, x2) (y1, y2)
            dsimp only [vIt] at c11 c12 c21 c22 hcc
            obtain ⟨c, hc⟩ : ∃ c, c = cf (x1, x2) (y1, y2) := ⟨_, rfl⟩
            rw [← hc] at hcc
            have HV : Aside (ltC cf d[m]! d[M]! = decide (c < 0)) := by show ltC cf _ _ = _; rw [← hx, ← hy, hc]; rfl
            clear hx hy hc
            by_cases hcl : c < 0
            · have hcd : decide (c < 0) = true := decide_eq_true hcl
              replace HV := HV.out.trans hcd
              have HV' : Aside _ := HV
              clear HV
              go_wp2_with fail
              go_quiet_grown (first | (go_at_call 36; refine Calls.grown_of (hcc _)))
              have S2 : Aside _ := Sk.out.grow nq osq
              clear c11 c12 c21 c22 hcc
              generalize grow (wr.drewN nq) osq = w2 at S2 ⊢
              clear nq osq
              clear bi3 ri3 bj3 rj3
              go_wp2_with fail
              go_roundg (M - i)
              case measure => omega
              case rel => exact ⟨i, M, rfl, rfl, hli, hM1, by omega, Nat.le_refl _, S2, by show _ = _; rw [← HP.out]; conv => rhs; rw [bsearch, dif_pos hlt, ← HM.out, if_neg (by rw [HV'.out]; exact Bool.false_ne_true)]⟩
            · have hcd : decide (c < 0) = false := decide_eq_false hcl
              replace HV := HV.out.trans hcd
              have HV' : Aside _ := HV
              clear HV
              go_wp2_with fail
              go_quiet_grown (first | (go_at_call 36; refine Calls.grown_of (hcc _)))
              have S2 : Aside _ := Sk.out.grow nq osq
              clear c11 c12 c21 c22 hcc
              generalize grow (wr.drewN nq) osq = w2 at S2 ⊢
              clear nq osq
              clear bi3 ri3 bj3 rj3
              go_wp2_with fail
              go_roundg (j - (M + 1))
              case measure => omega
              case rel => exact ⟨M + 1, j, by go_num, rfl, by omega, by omega, hjh, Nat.le_refl _, S2, by show _ = _; rw [← HP.out]; conv => rhs; rw [bsearch, dif_pos hlt, ← HM.out, if_pos (by rw [HV'.out]; rfl)]⟩
          · have hltz : ¬ (i : Int) < (j : Int) := by omega
            obtain rfl : j = i := by omega
            have hPb : bsearch (fun h => !(ltC cf) d[m]! d[h]!) (a) (m) = j := by rw [← HP.out, bsearch, dif_neg (by omega)]
            have HPb : Aside _ := hPb
            clear hPb HP
            rw [HPb.out] at HR
            go_wp2_with fail
            go_loopg [17] (m - j) (fun g vk wr => ∃ (k : Nat) (dk : Array It), vk = .int .i64 k ∧ j ≤ k ∧ k ≤ m ∧ k - j ≤ g ∧ dk.size = n ∧ Aside (St2 w0 blk off dk wr) ∧ Hid (downLoop (k - j) k dk = R))
            case atStart => exact ⟨m, d, rfl, by omega, Nat.le_refl _, Nat.le_refl _, hn, Sk, HR.out.symm⟩
            case round =>
              clear Sk
              obtain ⟨k, dk, rfl, hjk, hkm, hgk, hsk, Sk, HU⟩ := hrel
              by_cases hk : j < k
              · obtain ⟨kp, rfl⟩ : ∃ kp, k = kp + 1 := ⟨k - 1, by omega⟩
                have hkz : (j : Int) < (kp : Int) + 1 := by omega
                have bi4 : (kp : Int) + 1 < (n : Int) := by omega
                have ri4 : IntKind.i64.wrap ((kp : Int) + 1) = (kp : Int) + 1 := by rw [IntKind.wrap_i64]; omega
                have pi4 : (0 : Int) ≤ (kp : Int) + 1 := by omega
                have ei4 : ((kp : Int) + 1).toNat = kp + 1 := by omega
                have bj4 : (kp : Int) < (n : Int) := by omega
                have rj4 : IntKind.i64.wrap ((kp : Int)) = (kp : Int) := by rw [IntKind.wrap_i64]; omega
                obtain ⟨⟨x1, x2⟩, hx⟩ : ∃ x : It, x = dk[kp + 1]! := ⟨_, rfl⟩
                obtain ⟨⟨y1, y2⟩, hy⟩ : ∃ y : It, y = dk[kp]! := ⟨_, rfl⟩
                obtain ⟨c11, c12, f11, f12⟩ := Sk.out.holds (kp + 1) (by omega)
                obtain ⟨c21, c22, f21, f22⟩ := Sk.out.holds (kp) (by omega)
                rw [← hx] at c11 c12
                rw [← hy] at c21 c22
                dsimp only at c11 c12 c21 c22
                obtain ⟨u3, g3⟩ := Sk.out.third (kp + 1) (kp) (by omega) (by omega) (.int .i64 y1) (.int .i64 y2)
                obtain ⟨u4, g4⟩ := Sk.out.fourth (kp + 1) (kp) (by omega) (by omega) (.int .i64 y1) (.int .i64 y2) (.int .i64 x1)
                have S2 : Aside _ := (Sk.out.swap (by omega) (by omega) hx hy).drew
                dsimp only at S2
                clear hx hy
                go_wp2_with fail
                go_region
                clear c11 c12 c21 c22 f11 f12 f21 f22 g3 g4
                generalize ((((wr.setCell ⟨blk, off + (kp + 1) * 2, none⟩ (.int .i64 y1)).setCell ⟨blk, off + (kp + 1) * 2 + 1, none⟩ (.int .i64 y2)).setCell ⟨blk, off + (kp) * 2, none⟩ (.int .i64 x1)).setCell ⟨blk, off + (kp) * 2 + 1, none⟩ (.int .i64 x2)).drew = w2 at S2 ⊢
                clear bi4 ri4 pi4 ei4 bj4 rj4
                go_wp2_with fail
                go_roundg (kp - j)
                case measure => omega
                case rel => exact ⟨kp, swp dk (kp + 1) kp, by go_num, by omega, by omega, Nat.le_refl _, by rw [size_swp]; exact hsk, S2, by show _ = _; rw [← HU.out, show kp + 1 - j = (kp - j) + 1 by omega]; rfl⟩
              · have hkz : ¬ (j : Int) < (k : Int) := by omega
                obtain rfl : k = j := by omega
                have hB : dk = R := by have := HU.out; rwa [Nat.sub_self] at this
                subst hB
                go_wp2_with fail
                (try simp only [Exit.inBlock, Exit.then]); refine bodyPost_ret (results_none rfl _ _ _) rfl ?_
                exact ⟨rfl, Sk.out⟩
      · have h2z : ¬ (b : Int) - (m : Int) = 1 := by omega
        have h2e : ((b : Int) - (m : Int) == 1) = false := by rw [beq_eq_false_iff_ne]; omega
        obtain ⟨D, hD⟩ : ∃ D, D = (a + b) / 2 := ⟨_, rfl⟩
        have hDz : ((a : Int) + (b : Int)) / 2 = (D : Int) := by omega
        have hD1 : a < D := by omega
        have hD2 : D < b := by omega
        have hD3 : 2 * D ≤ a + b := by omega
        have hD4 : a + b ≤ 2 * D + 1 := by omega
        have HD : Aside (D = (a + b) / 2) := hD
        clear hD
        by_cases h3 : D < m
        · have h3z : (D : Int) < (m : Int) := by omega
          obtain ⟨s0, hs0⟩ : ∃ s0, s0 = D + m - b := ⟨_, rfl⟩
          have hsz0 : (D : Int) + (m : Int) - (b : Int) = (s0 : Int) := by omega
          have q1 : s0 ≤ D := by omega
          have q2 : D + m ≤ s0 + b := by omega
          have q5 : a ≤ s0 := by omega
          have HS0 : Aside (D + m - b = s0) := hs0.symm
          clear hs0
          go_enter Try.func104, Try.ntmps104
          go_wp2_with fail
          go_loopg [20, 21] (D - s0) (fun g vi vj wr => ∃ i j : Nat, vi = .int .i64 i ∧ vj = .int .i64 j ∧ s0 ≤ i ∧ i ≤ j ∧ j ≤ D ∧ j - i ≤ g ∧ Aside (St2 w0 blk off d wr) ∧ Hid (bsearch (fun c => !(ltC cf) d[D + m - 1 - c]! d[c]!) i j = bsearch (fun c => !(ltC cf) d[D + m - 1 - c]! d[c]!) (s0) (D)))
          case atStart => exact ⟨s0, D, by go_num, by go_num, Nat.le_refl _, by omega, Nat.le_refl _, Nat.le_refl _, S0, rfl⟩
          case round =>
            obtain ⟨i, j, rfl, rfl, hli, hij, hjh, hg, Sk, HP⟩ := hrel
            by_cases hlt : i < j
            · have hltz : (i : Int) < (j : Int) := by omega
              obtain ⟨M, hM⟩ : ∃ M, M = (i + j) / 2 := ⟨_, rfl⟩
              have hMz : ((i : Int) + (j : Int)) / 2 = (M : Int) := by omega
              have hM1 : i ≤ M := by omega
              have hM2 : M < j := by omega
              have HM : Aside (M = (i + j) / 2) := hM
              clear hM
              obtain ⟨PC, hPC⟩ : ∃ PC, PC = D + m - 1 - M := ⟨_, rfl⟩
              have hPCz : (D : Int) + (m : Int) - 1 - (M : Int) = (PC : Int) := by omega
              have hPC1 : PC < n := by omega
              have HPC : Aside (PC = D + m - 1 - M) := hPC
              clear hPC
              have bi5 : (PC : Int) < (n : Int) := by omega
              have ri5 : IntKind.i64.wrap ((PC : Int)) = (PC : Int) := by rw [IntKind.wrap_i64]; omega
              have bj5 : (M : Int) < (n : Int) := by omega
              have rj5 : IntKind.i64.wrap ((M : Int)) = (M : Int) := by rw [IntKind.wrap_i64]; omega
              obtain ⟨⟨x1, x2⟩, hx⟩ : ∃ x : It, x = d[PC]! := ⟨_, rfl⟩
              obtain ⟨⟨y1, y2⟩, hy⟩ : ∃ y : It, y = d[M]! := ⟨_, rfl⟩
              have c11 := fun n' os => (Sk.out.cells (i := PC) (by omega) hx n' os).1
              have c12 := fun n' os => (Sk.out.cells (i := PC) (by omega) hx n' os).2
              have c21 := fun n' os => (Sk.out.cells (i := M) (by omega) hy n' os).1
              have c22 := fun n' os => (Sk.out.cells (i := M) (by omega) hy n' os).2
              have hcc := CmpC.out HC (x1, x2) (y1, y2)
              dsimp only [vIt] at c11 c12 c21 c22 hcc
              obtain ⟨c, hc⟩ : ∃ c, c = cf (x1, x2) (y1, y2) := ⟨_, rfl⟩
              rw [← hc] at hcc
              have HV : Aside (ltC cf d[PC]! d[M]! = decide (c < 0)) := by show ltC cf _ _ = _; rw [← hx, ← hy, hc]; rfl
              clear hx hy hc
              by_cases hcl : c < 0
              · have hcd : decide (c < 0) = true := decide_eq_true hcl
                replace HV := HV.out.trans hcd
                have HV' : Aside _ := HV
                clear HV
                go_wp2_with fail
                go_quiet_grown (first | (go_at_call 36; refine Calls.grown_of (hcc _)))
                have S2 : Aside _ := Sk.out.grow nq osq
                clear c11 c12 c21 c22 hcc
                generalize grow (wr.drewN nq) osq = w2 at S2 ⊢
                clear nq osq
                clear bi5 ri5 bj5 rj5
                go_wp2_with fail
                go_roundg (M - i)
                case measure => omega
                case rel => exact ⟨i, M, rfl, rfl, hli, hM1, by omega, Nat.le_refl _, S2, by show _ = _; rw [← HP.out]; conv => rhs; rw [bsearch, dif_pos hlt, ← HM.out, if_neg (by show ¬ (!(ltC cf) d[D + m - 1 - M]! d[M]!) = true; rw [← HPC.out]; rw [HV'.out]; exact Bool.false_ne_true)]⟩
              · have hcd : decide (c < 0) = false := decide_eq_false hcl
                replace HV := HV.out.trans hcd
                have HV' : Aside _ := HV
                clear HV
                go_wp2_with fail
                go_quiet_grown (first | (go_at_call 36; refine Calls.grown_of (hcc _)))
                have S2 : Aside _ := Sk.out.grow nq osq
                clear c11 c12 c21 c22 hcc
                generalize grow (wr.drewN nq) osq = w2 at S2 ⊢
                clear nq osq
                clear bi5 ri5 bj5 rj5
                go_wp2_with fail
                go_roundg (j - (M + 1))
                case measure => omega
                case rel => exact ⟨M + 1, j, by go_num, rfl, by omega, by omega, hjh, Nat.le_refl _, S2, by show _ = _; rw [← HP.out]; conv => rhs; rw [bsearch, dif_pos hlt, ← HM.out, if_pos (by show (!(ltC cf) d[D + m - 1 - M]! d[M]!) = true; rw [← HPC.out]; rw [HV'.out]; rfl)]⟩
            · have hltz : ¬ (i : Int) < (j : Int) := by omega
              obtain rfl : j = i := by omega
              have hPb : bsearch (fun c => !(ltC cf) d[D + m - 1 - c]! d[c]!) (s0) (D) = j := by rw [← HP.out, bsearch, dif_neg (by omega)]
              have HPb : Aside _ := hPb
              clear hPb HP
              obtain ⟨E, hE⟩ : ∃ E, E = D + m - j := ⟨_, rfl⟩
              have hEz : (D : Int) + (m : Int) - (j : Int) = (E : Int) := by omega
              have hEb : E ≤ b := by omega
              have HE : Aside (D + m - j = E) := hE.symm
              clear hE
              rcases (show (j < m ∧ m < E) ∨ (¬ j < m) ∨ (j < m ∧ ¬ m < E) by omega) with ⟨c1a, c1b⟩ | c1a | ⟨c1a, c1b⟩
              · have c1x : (j : Int) < (m : Int) := by omega
                have c1y : (m : Int) < (E : Int) := by omega
                have hc6 := rotate_c O cf hC w0 blk off cap n d wr Sk.out hn hsz j m E c1a c1b (by omega)
                have hz1 : (rotate d j m E).size = n := (rotate_spec d j m E c1a c1b (by omega)).2.1.trans hn
                go_wp2_with fail
                refine hc6.mono ?_
                rintro e w2 ⟨rfl, S2q⟩
                have S2 : Aside _ := S2q
                clear hc6 S2q
                rcases (show (a < j ∧ j < D) ∨ (¬ a < j) ∨ (a < j ∧ ¬ j < D) by omega) with ⟨c2a, c2b⟩ | c2a | ⟨c2a, c2b⟩
                · have c2x : (a : Int) < (j : Int) := by omega
                  have c2y : (j : Int) < (D : Int) := by omega
                  have hc30 := IH.out a j D (rotate d j m E) w2 (by omega) S2.out hz1 c2a c2b (by omega)
                  have hz2 : (symMerge (ltC cf) (rotate d j m E) a j D).size = n := (symMerge_perm (ltC cf) _ a j D (rotate d j m E) (Nat.le_refl _) c2a c2b (by rw [hz1]; omega)).1.trans hz1
                  go_wp2_with fail
                  refine hc30.mono ?_
                  rintro e w3 ⟨rfl, S3q⟩
                  have S3 : Aside _ := S3q
                  clear hc30 S3q
                  rcases (show (D < E ∧ E < b) ∨ (¬ D < E) ∨ (D < E ∧ ¬ E < b) by omega) with ⟨c3a, c3b⟩ | c3a | ⟨c3a, c3b⟩
                  · have c3x : (D : Int) < (E : Int) := by omega
                    have c3y : (E : Int) < (b : Int) := by omega
                    have hc31 := IH.out D E b (symMerge (ltC cf) (rotate d j m E) a j D) w3 (by omega) S3.out hz2 c3a c3b hb
                    go_wp2_with fail
                    refine hc31.mono ?_
                    rintro e w4 ⟨rfl, S4q⟩
                    have S4 : Aside _ := S4q
                    clear hc31 S4q
                    go_wp2_with fail
                    go_end0
                    refine ⟨rfl, ?_⟩
                    have hfin := symMerge_open (ltC cf) d a m b h1 h2 D j E (rotate d j m E) (symMerge (ltC cf) (rotate d j m E) a j D) HD.out ⟨hD1, hD2⟩ (by rw [if_pos h3, if_pos h3, HS0.out]; exact HPb.out.symm) HE.out.symm (by rw [if_pos ⟨c1a, c1b⟩]) (by rw [if_pos ⟨c2a, c2b⟩])
                    rw [if_pos ⟨c3a, c3b⟩] at hfin
                    rw [hfin]
                    exact S4.out
                  · have c3x : ¬ (D : Int) < (E : Int) := by omega
                    go_wp2_with fail
                    go_end0
                    refine ⟨rfl, ?_⟩
                    have hfin := symMerge_open (ltC cf) d a m b h1 h2 D j E (rotate d j m E) (symMerge (ltC cf) (rotate d j m E) a j D) HD.out ⟨hD1, hD2⟩ (by rw [if_pos h3, if_pos h3, HS0.out]; exact HPb.out.symm) HE.out.symm (by rw [if_pos ⟨c1a, c1b⟩]) (by rw [if_pos ⟨c2a, c2b⟩])
                    rw [if_neg (fun h => c3a h.1)] at hfin
                    rw [hfin]
                    exact S3.out
                  · have c3x : (D : Int) < (E : Int) := by omega
                    have c3y : ¬ (E : Int) < (b : Int) := by omega
                    go_wp2_with fail
                    go_end0
                    refine ⟨rfl, ?_⟩
                    have hfin := symMerge_open (ltC cf) d a m b h1 h2 D j E (rotate d j m E) (symMerge (ltC cf) (rotate d j m E) a j D) HD.out ⟨hD1, hD2⟩ (by rw [if_pos h3, if_pos h3, HS0.out]; exact HPb.out.symm) HE.out.symm (by rw [if_pos ⟨c1a, c1b⟩]) (by rw [if_pos ⟨c2a, c2b⟩])
                    rw [if_neg (fun h => c3b h.2)] at hfin
                    rw [hfin]
                    exact S3.out
                · have c2x : ¬ (a : Int) < (j : Int) := by omega
                  rcases (show (D < E ∧ E < b) ∨ (¬ D < E) ∨ (D < E ∧ ¬ E < b) by omega) with ⟨c3a, c3b⟩ | c3a | ⟨c3a, c3b⟩
                  · have c3x : (D : Int) < (E : Int) := by omega
                    have c3y : (E : Int) < (b : Int) := by omega
                    have hc31 := IH.out D E b (rotate d j m E) w2 (by omega) S2.out hz1 c3a c3b hb
                    go_wp2_with fail
                    refine hc31.mono ?_
                    rintro e w4 ⟨rfl, S4q⟩
                    have S4 : Aside _ := S4q
                    clear hc31 S4q
                    go_wp2_with fail
                    go_end0
                    refine ⟨rfl, ?_⟩
                    have hfin := symMerge_open (ltC cf) d a m b h1 h2 D j E (rotate d j m E) (rotate d j m E) HD.out ⟨hD1, hD2⟩ (by rw [if_pos h3, if_pos h3, HS0.out]; exact HPb.out.symm) HE.out.symm (by rw [if_pos ⟨c1a, c1b⟩]) (by rw [if_neg (fun h => c2a h.1)])
                    rw [if_pos ⟨c3a, c3b⟩] at hfin
                    rw [hfin]
                    exact S4.out
                  · have c3x : ¬ (D : Int) < (E : Int) := by omega
                    go_wp2_with fail
                    go_end0
                    refine ⟨rfl, ?_⟩
                    have hfin := symMerge_open (ltC cf) d a m b h1 h2 D j E (rotate d j m E) (rotate d j m E) HD.out ⟨hD1, hD2⟩ (by rw [if_pos h3, if_pos h3, HS0.out]; exact HPb.out.symm) HE.out.symm (by rw [if_pos ⟨c1a, c1b⟩]) (by rw [if_neg (fun h => c2a h.1)])
                    rw [if_neg (fun h => c3a h.1)] at hfin
                    rw [hfin]
                    exact S2.out
                  · have c3x : (D : Int) < (E : Int) := by omega
                    have c3y : ¬ (E : Int) < (b : Int) := by omega
                    go_wp2_with fail
                    go_end0
                    refine ⟨rfl, ?_⟩
                    have hfin := symMerge_open (ltC cf) d a m b h1 h2 D j E (rotate d j m E) (rotate d j m E) HD.out ⟨hD1, hD2⟩ (by rw [if_pos h3, if_pos h3, HS0.out]; exact HPb.out.symm) HE.out.symm (by rw [if_pos ⟨c1a, c1b⟩]) (by rw [if_neg (fun h => c2a h.1)])
                    rw [if_neg (fun h => c3b h.2)] at hfin
                    rw [hfin]
                    exact S2.out
                · have c2x : (a : Int) < (j : Int) := by omega
                  have c2y : ¬ (j : Int) < (D : Int) := by omega
                  rcases (show (D < E ∧ E < b) ∨ (¬ D < E) ∨ (D < E ∧ ¬ E < b) by omega) with ⟨c3a, c3b⟩ | c3a | ⟨c3a, c3b⟩
                  · have c3x : (D : Int) < (E : Int) := by omega
                    have c3y : (E : Int) < (b : Int) := by omega
                    have hc31 := IH.out D E b (rotate d j m E) w2 (by omega) S2.out hz1 c3a c3b hb
                    go_wp2_with fail
                    refine hc31.mono ?_
                    rintro e w4 ⟨rfl, S4q⟩
                    have S4 : Aside _ := S4q
                    clear hc31 S4q
                    go_wp2_with fail
                    go_end0
                    refine ⟨rfl, ?_⟩
                    have hfin := symMerge_open (ltC cf) d a m b h1 h2 D j E (rotate d j m E) (rotate d j m E) HD.out ⟨hD1, hD2⟩ (by rw [if_pos h3, if_pos h3, HS0.out]; exact HPb.out.symm) HE.out.symm (by rw [if_pos ⟨c1a, c1b⟩]) (by rw [if_neg (fun h => c2b h.2)])
                    rw [if_pos ⟨c3a, c3b⟩] at hfin
                    rw [hfin]
                    exact S4.out
                  · have c3x : ¬ (D : Int) < (E : Int) := by omega
                    go_wp2_with fail
                    go_end0
                    refine ⟨rfl, ?_⟩
                    have hfin := symMerge_open (ltC cf) d a m b h1 h2 D j E (rotate d j m E) (rotate d j m E) HD.out ⟨hD1, hD2⟩ (by rw [if_pos h3, if_pos h3, HS0.out]; exact HPb.out.symm) HE.out.symm (by rw [if_pos ⟨c1a, c1b⟩]) (by rw [if_neg (fun h => c2b h.2)])
                    rw [if_neg (fun h => c3a h.1)] at hfin
                    rw [hfin]
                    exact S2.out
                  · have c3x : (D : Int) < (E : Int) := by omega
                    have c3y : ¬ (E : Int) < (b : Int) := by omega
                    go_wp2_with fail
                    go_end0
                    refine ⟨rfl, ?_⟩
                    have hfin := symMerge_open (ltC cf) d a m b h1 h2 D j E (rotate d j m E) (rotate d j m E) HD.out ⟨hD1, hD2⟩ (by rw [if_pos h3, if_pos h3, HS0.out]; exact HPb.out.symm) HE.out.symm (by rw [if_pos ⟨c1a, c1b⟩]) (by rw [if_neg (fun h => c2b h.2)])
                    rw [if_neg (fun h => c3b h.2)] at hfin
                    rw [hfin]
                    exact S2.out
              · have c1x : ¬ (j : Int) < (m : Int) := by omega
                rcases (show (a < j ∧ j < D) ∨ (¬ a < j) ∨ (a < j ∧ ¬ j < D) by omega) with ⟨c2a, c2b⟩ | c2a | ⟨c2a, c2b⟩
                · have c2x : (a : Int) < (j : Int) := by omega
                  have c2y : (j : Int) < (D : Int) := by omega
                  have hc30 := IH.out a j D (d) wr (by omega) Sk.out hn c2a c2b (by omega)
                  have hz2 : (symMerge (ltC cf) (d) a j D).size = n := (symMerge_perm (ltC cf) _ a j D (d) (Nat.le_refl _) c2a c2b (by rw [hn]; omega)).1.trans hn
                  go_wp2_with fail
                  refine hc30.mono ?_
                  rintro e w3 ⟨rfl, S3q⟩
                  have S3 : Aside _ := S3q
                  clear hc30 S3q
                  rcases (show (D < E ∧ E < b) ∨ (¬ D < E) ∨ (D < E ∧ ¬ E < b) by omega) with ⟨c3a, c3b⟩ | c3a | ⟨c3a, c3b⟩
                  · have c3x : (D : Int) < (E : Int) := by omega
                    have c3y : (E : Int) < (b : Int) := by omega
                    have hc31 := IH.out D E b (symMerge (ltC cf) (d) a j D) w3 (by omega) S3.out hz2 c3a c3b hb
                    go_wp2_with fail
                    refine hc31.mono ?_
                    rintro e w4 ⟨rfl, S4q⟩
                    have S4 : Aside _ := S4q
                    clear hc31 S4q
                    go_wp2_with fail
                    go_end0
                    refine ⟨rfl, ?_⟩
                    have hfin := symMerge_open (ltC cf) d a m b h1 h2 D j E (d) (symMerge (ltC cf) (d) a j D) HD.out ⟨hD1, hD2⟩ (by rw [if_pos h3, if_pos h3, HS0.out]; exact HPb.out.symm) HE.out.symm (by rw [if_neg (fun h => c1a h.1)]) (by rw [if_pos ⟨c2a, c2b⟩])
                    rw [if_pos ⟨c3a, c3b⟩] at hfin
                    rw [hfin]
                    exact S4.out
                  · have c3x : ¬ (D : Int) < (E : Int) := by omega
                    go_wp2_with fail
                    go_end0
                    refine ⟨rfl, ?_⟩
                    have hfin := symMerge_open (ltC cf) d a m b h1 h2 D j E (d) (symMerge (ltC cf) (d) a j D) HD.out ⟨hD1, hD2⟩ (by rw [if_pos h3, if_pos h3, HS0.out]; exact HPb.out.symm) HE.out.symm (by rw [if_neg (fun h => c1a h.1)]) (by rw [if_pos ⟨c2a, c2b⟩])
                    rw [if_neg (fun h => c3a h.1)] at hfin
                    rw [hfin]
                    exact S3.out
                  · have c3x : (D : Int) < (E : Int) := by omega
                    have c3y : ¬ (E : Int) < (b : Int) := by omega
                    go_wp2_with fail
                    go_end0
                    refine ⟨rfl, ?_⟩
                    have hfin := symMerge_open (ltC cf) d a m b h1 h2 D j E (d) (symMerge (ltC cf) (d) a j D) HD.out ⟨hD1, hD2⟩ (by rw [if_pos h3, if_pos h3, HS0.out]; exact HPb.out.symm) HE.out.symm (by rw [if_neg (fun h => c1a h.1)]) (by rw [if_pos ⟨c2a, c2b⟩])
                    rw [if_neg (fun h => c3b h.2)] at hfin
                    rw [hfin]
                    exact S3.out
                · have c2x : ¬ (a : Int) < (j : Int) := by omega
                  rcases (show (D < E ∧ E < b) ∨ (¬ D < E) ∨ (D < E ∧ ¬ E < b) by omega) with ⟨c3a, c3b⟩ | c3a | ⟨c3a, c3b⟩
                  · have c3x : (D : Int) < (E : Int) := by omega
                    have c3y : (E : Int) < (b : Int) := by omega
                    have hc31 := IH.out D E b (d) wr (by omega) Sk.out hn c3a c3b hb
                    go_wp2_with fail
                    refine hc31.mono ?_
                    rintro e w4 ⟨rfl, S4q⟩
                    have S4 : Aside _ := S4q
                    clear hc31 S4q
                    go_wp2_with fail
                    go_end0
                    refine ⟨rfl, ?_⟩
                    have hfin := symMerge_open (ltC cf) d a m b h1 h2 D j E (d) (d) HD.out ⟨hD1, hD2⟩ (by rw [if_pos h3, if_pos h3, HS0.out]; exact HPb.out.symm) HE.out.symm (by rw [if_neg (fun h => c1a h.1)]) (by rw [if_neg (fun h => c2a h.1)])
                    rw [if_pos ⟨c3a, c3b⟩] at hfin
                    rw [hfin]
                    exact S4.out
                  · have c3x : ¬ (D : Int) < (E : Int) := by omega
                    go_wp2_with fail
                    go_end0
                    refine ⟨rfl, ?_⟩
                    have hfin := symMerge_open (ltC cf) d a m b h1 h2 D j E (d) (d) HD.out ⟨hD1, hD2⟩ (by rw [if_pos h3, if_pos h3, HS0.out]; exact HPb.out.symm) HE.out.symm (by rw [if_neg (fun h => c1a h.1)]) (by rw [if_neg (fun h => c2a h.1)])
                    rw [if_neg (fun h => c3a h.1)] at hfin
                    rw [hfin]
                    exact Sk.out
                  · have c3x : (D : Int) < (E : Int) := by omega
                    have c3y : ¬ (E : Int) < (b : Int) := by omega
                    go_wp2_with fail
                    go_end0
                    refine ⟨rfl, ?_⟩
                    have hfin := symMerge_open (ltC cf) d a m b h1 h2 D j E (d) (d) HD.out ⟨hD1, hD2⟩ (by rw [if_pos h3, if_pos h3, HS0.out]; exact HPb.out.symm) HE.out.symm (by rw [if_neg (fun h => c1a h.1)]) (by rw [if_neg (fun h => c2a h.1)])
                    rw [if_neg (fun h => c3b h.2)] at hfin
                    rw [hfin]
                    exact Sk.out
                · have c2x : (a : Int) < (j : Int) := by omega
                  have c2y : ¬ (j : Int) < (D : Int) := by omega
                  rcases (show (D < E ∧ E < b) ∨ (¬ D < E) ∨ (D < E ∧ ¬ E < b) by omega) with ⟨c3a, c3b⟩ | c3a | ⟨c3a, c3b⟩
                  · have c3x : (D : Int) < (E : Int) := by omega
                    have c3y : (E : Int) < (b : Int) := by omega
                    have hc31 := IH.out D E b (d) wr (by omega) Sk.out hn c3a c3b hb
                    go_wp2_with fail
                    refine hc31.mono ?_
                    rintro e w4 ⟨rfl, S4q⟩
                    have S4 : Aside _ := S4q
                    clear hc31 S4q
                    go_wp2_with fail
                    go_end0
                    refine ⟨rfl, ?_⟩
                    have hfin := symMerge_open (ltC cf) d a m b h1 h2 D j E (d) (d) HD.out ⟨hD1, hD2⟩ (by rw [if_pos h3, if_pos h3, HS0.out]; exact HPb.out.symm) HE.out.symm (by rw [if_neg (fun h => c1a h.1)]) (by rw [if_neg (fun h => c2b h.2)])
                    rw [if_pos ⟨c3a, c3b⟩] at hfin
                    rw [hfin]
                    exact S4.out
                  · have c3x : ¬ (D : Int) < (E : Int) := by omega
                    go_wp2_with fail
                    go_end0
                    refine ⟨rfl, ?_⟩
                    have hfin := symMerge_open (ltC cf) d a m b h1 h2 D j E (d) (d) HD.out ⟨hD1, hD2⟩ (by rw [if_pos h3, if_pos h3, HS0.out]; exact HPb.out.symm) HE.out.symm (by rw [if_neg (fun h => c1a h.1)]) (by rw [if_neg (fun h => c2b h.2)])
                    rw [if_neg (fun h => c3a h.1)] at hfin
                    rw [hfin]
                    exact Sk.out
                  · have c3x : (D : Int) < (E : Int) := by omega
                    have c3y : ¬ (E : Int) < (b : Int) := by omega
                    go_wp2_with fail
                    go_end0
                    refine ⟨rfl, ?_⟩
                    have hfin := symMerge_open (ltC cf) d a m b h1 h2 D j E (d) (d) HD.out ⟨hD1, hD2⟩ (by rw [if_pos h3, if_pos h3, HS0.out]; exact HPb.out.symm) HE.out.symm (by rw [if_neg (fun h => c1a h.1)]) (by rw [if_neg (fun h => c2b h.2)])
                    rw [if_neg (fun h => c3b h.2)] at hfin
                    rw [hfin]
                    exact Sk.out
              · have c1x : (j : Int) < (m : Int) := by omega
                have c1y : ¬ (m : Int) < (E : Int) := by omega
                rcases (show (a < j ∧ j < D) ∨ (¬ a < j) ∨ (a < j ∧ ¬ j < D) by omega) with ⟨c2a, c2b⟩ | c2a | ⟨c2a, c2b⟩
                · have c2x : (a : Int) < (j : Int) := by omega
                  have c2y : (j : Int) < (D : Int) := by omega
                  have hc30 := IH.out a j D (d) wr (by omega) Sk.out hn c2a c2b (by omega)
                  have hz2 : (symMerge (ltC cf) (d) a j D).size = n := (symMerge_perm (ltC cf) _ a j D (d) (Nat.le_refl _) c2a c2b (by rw [hn]; omega)).1.trans hn
                  go_wp2_with fail
                  refine hc30.mono ?_
                  rintro e w3 ⟨rfl, S3q⟩
                  have S3 : Aside _ := S3q
                  clear hc30 S3q
                  rcases (show (D < E ∧ E < b) ∨ (¬ D < E) ∨ (D < E ∧ ¬ E < b) by omega) with ⟨c3a, c3b⟩ | c3a | ⟨c3a, c3b⟩
                  · have c3x : (D : Int) < (E : Int) := by omega
                    have c3y : (E : Int) < (b : Int) := by omega
                    have hc31 := IH.out D E b (symMerge (ltC cf) (d) a j D) w3 (by omega) S3.out hz2 c3a c3b hb
                    go_wp2_with fail
                    refine hc31.mono ?_
                    rintro e w4 ⟨rfl, S4q⟩
                    have S4 : Aside _ := S4q
                    clear hc31 S4q
                    go_wp2_with fail
                    go_end0
                    refine ⟨rfl, ?_⟩
                    have hfin := symMerge_open (ltC cf) d a m b h1 h2 D j E (d) (symMerge (ltC cf) (d) a j D) HD.out ⟨hD1, hD2⟩ (by rw [if_pos h3, if_pos h3, HS0.out]; exact HPb.out.symm) HE.out.symm (by rw [if_neg (fun h => c1b h.2)]) (by rw [if_pos ⟨c2a, c2b⟩])
                    rw [if_pos ⟨c3a, c3b⟩] at hfin
                    rw [hfin]
                    exact S4.out
                  · have c3x : ¬ (D : Int) < (E : Int) := by omega
                    go_wp2_with fail
                    go_end0
                    refine ⟨rfl, ?_⟩
                    have hfin := symMerge_open (ltC cf) d a m b h1 h2 D j E (d) (symMerge (ltC cf) (d) a j D) HD.out ⟨hD1, hD2⟩ (by rw [if_pos h3, if_pos h3, HS0.out]; exact HPb.out.symm) HE.out.symm (by rw [if_neg (fun h => c1b h.2)]) (by rw [if_pos ⟨c2a, c2b⟩])
                    rw [if_neg (fun h => c3a h.1)] at hfin
                    rw [hfin]
                    exact S3.out
                  · have c3x : (D : Int) < (E : Int) := by omega
                    have c3y : ¬ (E : Int) < (b : Int) := by omega
                    go_wp2_with fail
                    go_end0
                    refine ⟨rfl, ?_⟩
                    have hfin := symMerge_open (ltC cf) d a m b h1 h2 D j E (d) (symMerge (ltC cf) (d) a j D) HD.out ⟨hD1, hD2⟩ (by rw [if_pos h3, if_pos h3, HS0.out]; exact HPb.out.symm) HE.out.symm (by rw [if_neg (fun h => c1b h.2)]) (by rw [if_pos ⟨c2a, c2b⟩])
                    rw [if_neg (fun h => c3b h.2)] at hfin
                    rw [hfin]
                    exact S3.out
                · have c2x : ¬ (a : Int) < (j : Int) := by omega
                  rcases (show (D < E ∧ E < b) ∨ (¬ D < E) ∨ (D < E ∧ ¬ E < b) by omega) with ⟨c3a, c3b⟩ | c3a | ⟨c3a, c3b⟩
                  · have c3x : (D : Int) < (E : Int) := by omega
                    have c3y : (E : Int) < (b : Int) := by omega
                    have hc31 := IH.out D E b (d) wr (by omega) Sk.out hn c3a c3b hb
                    go_wp2_with fail
                    refine hc31.mono ?_
                    rintro e w4 ⟨rfl, S4q⟩
                    have S4 : Aside _ := S4q
                    clear hc31 S4q
                    go_wp2_with fail
                    go_end0
                    refine ⟨rfl, ?_⟩
                    have hfin := symMerge_open (ltC cf) d a m b h1 h2 D j E (d) (d) HD.out ⟨hD1, hD2⟩ (by rw [if_pos h3, if_pos h3, HS0.out]; exact HPb.out.symm) HE.out.symm (by rw [if_neg (fun h => c1b h.2)]) (by rw [if_neg (fun h => c2a h.1)])
                    rw [if_pos ⟨c3a, c3b⟩] at hfin
                    rw [hfin]
                    exact S4.out
                  · have c3x : ¬ (D : Int) < (E : Int) := by omega
                    go_wp2_with fail
                    go_end0
                    refine ⟨rfl, ?_⟩
                    have hfin := symMerge_open (ltC cf) d a m b h1 h2 D j E (d) (d) HD.out ⟨hD1, hD2⟩ (by rw [if_pos h3, if_pos h3, HS0.out]; exact HPb.out.symm) HE.out.symm (by rw [if_neg (fun h => c1b h.2)]) (by rw [if_neg (fun h => c2a h.1)])
                    rw [if_neg (fun h => c3a h.1)] at hfin
                    rw [hfin]
                    exact Sk.out
                  · have c3x : (D : Int) < (E : Int) := by omega
                    have c3y : ¬ (E : Int) < (b : Int) := by omega
                    go_wp2_with fail
                    go_end0
                    refine ⟨rfl, ?_⟩
                    have hfin := symMerge_open (ltC cf) d a m b h1 h2 D j E (d) (d) HD.out ⟨hD1, hD2⟩ (by rw [if_pos h3, if_pos h3, HS0.out]; exact HPb.out.symm) HE.out.symm (by rw [if_neg (fun h => c1b h.2)]) (by rw [if_neg (fun h => c2a h.1)])
                    rw [if_neg (fun h => c3b h.2)] at hfin
                    rw [hfin]
                    exact Sk.out
                · have c2x : (a : Int) < (j : Int) := by omega
                  have c2y : ¬ (j : Int) < (D : Int) := by omega
                  rcases (show (D < E ∧ E < b) ∨ (¬ D < E) ∨ (D < E ∧ ¬ E < b) by omega) with ⟨c3a, c3b⟩ | c3a | ⟨c3a, c3b⟩
                  · have c3x : (D : Int) < (E : Int) := by omega
                    have c3y : (E : Int) < (b : Int) := by omega
                    have hc31 := IH.out D E b (d) wr (by omega) Sk.out hn c3a c3b hb
                    go_wp2_with fail
                    refine hc31.mono ?_
                    rintro e w4 ⟨rfl, S4q⟩
                    have S4 : Aside _ := S4q
                    clear hc31 S4q
                    go_wp2_with fail
                    go_end0
                    refine ⟨rfl, ?_⟩
                    have hfin := symMerge_open (ltC cf) d a m b h1 h2 D j E (d) (d) HD.out ⟨hD1, hD2⟩ (by rw [if_pos h3, if_pos h3, HS0.out]; exact HPb.out.symm) HE.out.symm (by rw [if_neg (fun h => c1b h.2)]) (by rw [if_neg (fun h => c2b h.2)])
                    rw [if_pos ⟨c3a, c3b⟩] at hfin
                    rw [hfin]
                    exact S4.out
                  · have c3x : ¬ (D : Int) < (E : Int) := by omega
                    go_wp2_with fail
                    go_end0
                    refine ⟨rfl, ?_⟩
                    have hfin := symMerge_open (ltC cf) d a m b h1 h2 D j E (d) (d) HD.out ⟨hD1, hD2⟩ (by rw [if_pos h3, if_pos h3, HS0.out]; exact HPb.out.symm) HE.out.symm (by rw [if_neg (fun h => c1b h.2)]) (by rw [if_neg (fun h => c2b h.2)])
                    rw [if_neg (fun h => c3a h.1)] at hfin
                    rw [hfin]
                    exact Sk.out
                  · have c3x : (D : Int) < (E : Int) := by omega
                    have c3y : ¬ (E : Int) < (b : Int) := by omega
                    go_wp2_with fail
                    go_end0
                    refine ⟨rfl, ?_⟩
                    have hfin := symMerge_open (ltC cf) d a m b h1 h2 D j E (d) (d) HD.out ⟨hD1, hD2⟩ (by rw [if_pos h3, if_pos h3, HS0.out]; exact HPb.out.symm) HE.out.symm (by rw [if_neg (fun h => c1b h.2)]) (by rw [if_neg (fun h => c2b h.2)])
                    rw [if_neg (fun h => c3b h.2)] at hfin
                    rw [hfin]
                    exact Sk.out
        · have h3z : ¬ (D : Int) < (m : Int) := by omega
          go_enter Try.func104, Try.ntmps104
          go_wp2_with fail
          go_loopg [20, 21] (m - a) (fun g vi vj wr => ∃ i j : Nat, vi = .int .i64 i ∧ vj = .int .i64 j ∧ a ≤ i ∧ i ≤ j ∧ j ≤ m ∧ j - i ≤ g ∧ Aside (St2 w0 blk off d wr) ∧ Hid (bsearch (fun c => !(ltC cf) d[D + m - 1 - c]! d[c]!) i j = bsearch (fun c => !(ltC cf) d[D + m - 1 - c]! d[c]!) (a) (m)))
          case atStart => exact ⟨a, m, by go_num, by go_num, Nat.le_refl _, by omega, Nat.le_refl _, Nat.le_refl _, S0, rfl⟩
          case round =>
            obtain ⟨i, j, rfl, rfl, hli, hij, hjh, hg, Sk, HP⟩ := hrel
            by_cases hlt : i < j
            · have hltz : (i : Int) < (j : Int) := by omega
              obtain ⟨M, hM⟩ : ∃ M, M = (i + j) / 2 := ⟨_, rfl⟩
              have hMz : ((i : Int) + (j : Int)) / 2 = (M : Int) := by omega
              have hM1 : i ≤ M := by omega
              have hM2 : M < j := by omega
              have HM : Aside (M = (i + j) / 2) := hM
              clear hM
              obtain ⟨PC, hPC⟩ : ∃ PC, PC = D + m - 1 - M := ⟨_, rfl⟩
              have hPCz : (D : Int) + (m : Int) - 1 - (M : Int) = (PC : Int) := by omega
              have hPC1 : PC < n := by omega
              have HPC : Aside (PC = D + m - 1 - M) := hPC
              clear hPC
              have bi7 : (PC : Int) < (n : Int) := by omega
              have ri7 : IntKind.i64.wrap ((PC : Int)) = (PC : Int) := by rw [IntKind.wrap_i64]; omega
              have bj7 : (M : Int) < (n : Int) := by omega
              have rj7 : IntKind.i64.wrap ((M : Int)) = (M : Int) := by rw [IntKind.wrap_i64]; omega
              obtain ⟨⟨x1, x2⟩, hx⟩ : ∃ x : It, x = d[PC]! := ⟨_, rfl⟩
              obtain ⟨⟨y1, y2⟩, hy⟩ : ∃ y : It, y = d[M]! := ⟨_, rfl⟩
              have c11 := fun n' os => (Sk.out.cells (i := PC) (by omega) hx n' os).1
              have c12 := fun n' os => (Sk.out.cells (i := PC) (by omega) hx n' os).2
              have c21 := fun n' os => (Sk.out.cells (i := M) (by omega) hy n' os).1
              have c22 := fun n' os => (Sk.out.cells (i := M) (by omega) hy n' os).2
              have hcc := CmpC.out HC (x1, x2) (y1, y2)
              dsimp only [vIt] at c11 c12 c21 c22 hcc
              obtain ⟨c, hc⟩ : ∃ c, c = cf (x1, x2) (y1, y2) := ⟨_, rfl⟩
              rw [← hc] at hcc
              have HV : Aside (ltC cf d[PC]! d[M]! = decide (c < 0)) := by show ltC cf _ _ = _; rw [← hx, ← hy, hc]; rfl
              clear hx hy hc
              by_cases hcl : c < 0
              · have hcd : decide (c < 0) = true := decide_eq_true hcl
                replace HV := HV.out.trans hcd
                have HV' : Aside _ := HV
                clear HV
                go_wp2_with fail
                go_quiet_grown (first | (go_at_call 36; refine Calls.grown_of (hcc _)))
                have S2 : Aside _ := Sk.out.grow nq osq
                clear c11 c12 c21 c22 hcc
                generalize grow (wr.drewN nq) osq = w2 at S2 ⊢
                clear nq osq
                clear bi7 ri7 bj7 rj7
                go_wp2_with fail
                go_roundg (M - i)
                case measure => omega
                case rel => exact ⟨i, M, rfl, rfl, hli, hM1, by omega, Nat.le_refl _, S2, by show _ = _; rw [← HP.out]; conv => rhs; rw [bsearch, dif_pos hlt, ← HM.out, if_neg (by show ¬ (!(ltC cf) d[D + m - 1 - M]! d[M]!) = true; rw [← HPC.out]; rw [HV'.out]; exact Bool.false_ne_true)]⟩
              · have hcd : decide (c < 0) = false := decide_eq_false hcl
                replace HV := HV.out.trans hcd
                have HV' : Aside _ := HV
                clear HV
                go_wp2_with fail
                go_quiet_grown (first | (go_at_call 36; refine Calls.grown_of (hcc _)))
                have S2 : Aside _ := Sk.out.grow nq osq
                clear c11 c12 c21 c22 hcc
                generalize grow (wr.drewN nq) osq = w2 at S2 ⊢
                clear nq osq
                clear bi7 ri7 bj7 rj7
                go_wp2_with fail
                go_roundg (j - (M + 1))
                case measure => omega
                case rel => exact ⟨M + 1, j, by go_num, rfl, by omega, by omega, hjh, Nat.le_refl _, S2, by show _ = _; rw [← HP.out]; conv => rhs; rw [bsearch, dif_pos hlt, ← HM.out, if_pos (by show (!(ltC cf) d[D + m - 1 - M]! d[M]!) = true; rw [← HPC.out]; rw [HV'.out]; rfl)]⟩
            · have hltz : ¬ (i : Int) < (j : Int) := by omega
              obtain rfl : j = i := by omega
              have hPb : bsearch (fun c => !(ltC cf) d[D + m - 1 - c]! d[c]!) (a) (m) = j := by rw [← HP.out, bsearch, dif_neg (by omega)]
              have HPb : Aside _ := hPb
              clear hPb HP
              obtain ⟨E, hE⟩ : ∃ E, E = D + m - j := ⟨_, rfl⟩
              have hEz : (D : Int) + (m : Int) - (j : Int) = (E : Int) := by omega
              have hEb : E ≤ b := by omega
              have HE : Aside (D + m - j = E) := hE.symm
              clear hE
              rcases (show (j < m ∧ m < E) ∨ (¬ j < m) ∨ (j < m ∧ ¬ m < E) by omega) with ⟨c1a, c1b⟩ | c1a | ⟨c1a, c1b⟩
              · have c1x : (j : Int) < (m : Int) := by omega
                have c1y : (m : Int) < (E : Int) := by omega
                have hc8 := rotate_c O cf hC w0 blk off cap n d wr Sk.out hn hsz j m E c1a c1b (by omega)
                have hz1 : (rotate d j m E).size = n := (rotate_spec d j m E c1a c1b (by omega)).2.1.trans hn
                go_wp2_with fail
                refine hc8.mono ?_
                rintro e w2 ⟨rfl, S2q⟩
                have S2 : Aside _ := S2q
                clear hc8 S2q
                rcases (show (a < j ∧ j < D) ∨ (¬ a < j) ∨ (a < j ∧ ¬ j < D) by omega) with ⟨c2a, c2b⟩ | c2a | ⟨c2a, c2b⟩
                · have c2x : (a : Int) < (j : Int) := by omega
                  have c2y : (j : Int) < (D : Int) := by omega
                  have hc30 := IH.out a j D (rotate d j m E) w2 (by omega) S2.out hz1 c2a c2b (by omega)
                  have hz2 : (symMerge (ltC cf) (rotate d j m E) a j D).size = n := (symMerge_perm (ltC cf) _ a j D (rotate d j m E) (Nat.le_refl _) c2a c2b (by rw [hz1]; omega)).1.trans hz1
                  go_wp2_with fail
                  refine hc30.mono ?_
                  rintro e w3 ⟨rfl, S3q⟩
                  have S3 : Aside _ := S3q
                  clear hc30 S3q
                  rcases (show (D < E ∧ E < b) ∨ (¬ D < E) ∨ (D < E ∧ ¬ E < b) by omega) with ⟨c3a, c3b⟩ | c3a | ⟨c3a, c3b⟩
                  · have c3x : (D : Int) < (E : Int) := by omega
                    have c3y : (E : Int) < (b : Int) := by omega
                    have hc31 := IH.out D E b (symMerge (ltC cf) (rotate d j m E) a j D) w3 (by omega) S3.out hz2 c3a c3b hb
                    go_wp2_with fail
                    refine hc31.mono ?_
                    rintro e w4 ⟨rfl, S4q⟩
                    have S4 : Aside _ := S4q
                    clear hc31 S4q
                    go_wp2_with fail
                    go_end0
                    refine ⟨rfl, ?_⟩
                    have hfin := symMerge_open (ltC cf) d a m b h1 h2 D j E (rotate d j m E) (symMerge (ltC cf) (rotate d j m E) a j D) HD.out ⟨hD1, hD2⟩ (by rw [if_neg h3, if_neg h3]; exact HPb.out.symm) HE.out.symm (by rw [if_pos ⟨c1a, c1b⟩]) (by rw [if_pos ⟨c2a, c2b⟩])
                    rw [if_pos ⟨c3a, c3b⟩] at hfin
                    rw [hfin]
                    exact S4.out
                  · have c3x : ¬ (D : Int) < (E : Int) := by omega
                    go_wp2_with fail
                    go_end0
                    refine ⟨rfl, ?_⟩
                    have hfin := symMerge_open (ltC cf) d a m b h1 h2 D j E (rotate d j m E) (symMerge (ltC cf) (rotate d j m E) a j D) HD.out ⟨hD1, hD2⟩ (by rw [if_neg h3, if_neg h3]; exact HPb.out.symm) HE.out.symm (by rw [if_pos ⟨c1a, c1b⟩]) (by rw [if_pos ⟨c2a, c2b⟩])
                    rw [if_neg (fun h => c3a h.1)] at hfin
                    rw [hfin]
                    exact S3.out
                  · have c3x : (D : Int) < (E : Int) := by omega
                    have c3y : ¬ (E : Int) < (b : Int) := by omega
                    go_wp2_with fail
                    go_end0
                    refine ⟨rfl, ?_⟩
                    have hfin := symMerge_open (ltC cf) d a m b h1 h2 D j E (rotate d j m E) (symMerge (ltC cf) (rotate d j m E) a j D) HD.out ⟨hD1, hD2⟩ (by rw [if_neg h3, if_neg h3]; exact HPb.out.symm) HE.out.symm (by rw [if_pos ⟨c1a, c1b⟩]) (by rw [if_pos ⟨c2a, c2b⟩])
                    rw [if_neg (fun h => c3b h.2)] at hfin
                    rw [hfin]
                    exact S3.out
                · have c2x : ¬ (a : Int) < (j : Int) := by omega
                  rcases (show (D < E ∧ E < b) ∨ (¬ D < E) ∨ (D < E ∧ ¬ E < b) by omega) with ⟨c3a, c3b⟩ | c3a | ⟨c3a, c3b⟩
                  · have c3x : (D : Int) < (E : Int) := by omega
                    have c3y : (E : Int) < (b : Int) := by omega
                    have hc31 := IH.out D E b (rotate d j m E) w2 (by omega) S2.out hz1 c3a c3b hb
                    go_wp2_with fail
                    refine hc31.mono ?_
                    rintro e w4 ⟨rfl, S4q⟩
                    have S4 : Aside _ := S4q
                    clear hc31 S4q
                    go_wp2_with fail
                    go_end0
                    refine ⟨rfl, ?_⟩
                    have hfin := symMerge_open (ltC cf) d a m b h1 h2 D j E (rotate d j m E) (rotate d j m E) HD.out ⟨hD1, hD2⟩ (by rw [if_neg h3, if_neg h3]; exact HPb.out.symm) HE.out.symm (by rw [if_pos ⟨c1a, c1b⟩]) (by rw [if_neg (fun h => c2a h.1)])
                    rw [if_pos ⟨c3a, c3b⟩] at hfin
                    rw [hfin]
                    exact S4.out
                  · have c3x : ¬ (D : Int) < (E : Int) := by omega
                    go_wp2_with fail
                    go_end0
                    refine ⟨rfl, ?_⟩
                    have hfin := symMerge_open (ltC cf) d a m b h1 h2 D j E (rotate d j m E) (rotate d j m E) HD.out ⟨hD1, hD2⟩ (by rw [if_neg h3, if_neg h3]; exact HPb.out.symm) HE.out.symm (by rw [if_pos ⟨c1a, c1b⟩]) (by rw [if_neg (fun h => c2a h.1)])
                    rw [if_neg (fun h => c3a h.1)] at hfin
                    rw [hfin]
                    exact S2.out
                  · have c3x : (D : Int) < (E : Int) := by omega
                    have c3y : ¬ (E : Int) < (b : Int) := by omega
                    go_wp2_with fail
                    go_end0
                    refine ⟨rfl, ?_⟩
                    have hfin := symMerge_open (ltC cf) d a m b h1 h2 D j E (rotate d j m E) (rotate d j m E) HD.out ⟨hD1, hD2⟩ (by rw [if_neg h3, if_neg h3]; exact HPb.out.symm) HE.out.symm (by rw [if_pos ⟨c1a, c1b⟩]) (by rw [if_neg (fun h => c2a h.1)])
                    rw [if_neg (fun h => c3b h.2)] at hfin
                    rw [hfin]
                    exact S2.out
                · have c2x : (a : Int) < (j : Int) := by omega
                  have c2y : ¬ (j : Int) < (D : Int) := by omega
                  rcases (show (D < E ∧ E < b) ∨ (¬ D < E) ∨ (D < E ∧ ¬ E < b) by omega) with ⟨c3a, c3b⟩ | c3a | ⟨c3a, c3b⟩
                  · have c3x : (D : Int) < (E : Int) := by omega
                    have c3y : (E : Int) < (b : Int) := by omega
                    have hc31 := IH.out D E b (rotate d j m E) w2 (by omega) S2.out hz1 c3a c3b hb
                    go_wp2_with fail
                    refine hc31.mono ?_
                    rintro e w4 ⟨rfl, S4q⟩
                    have S4 : Aside _ := S4q
                    clear hc31 S4q
                    go_wp2_with fail
                    go_end0
                    refine ⟨rfl, ?_⟩
                    have hfin := symMerge_open (ltC cf) d a m b h1 h2 D j E (rotate d j m E) (rotate d j m E) HD.out ⟨hD1, hD2⟩ (by rw [if_neg h3, if_neg h3]; exact HPb.out.symm) HE.out.symm (by rw [if_pos ⟨c1a, c1b⟩]) (by rw [if_neg (fun h => c2b h.2)])
                    rw [if_pos ⟨c3a, c3b⟩] at hfin
                    rw [hfin]
                    exact S4.out
                  · have c3x : ¬ (D : Int) < (E : Int) := by omega
                    go_wp2_with fail
                    go_end0
                    refine ⟨rfl, ?_⟩
                    have hfin := symMerge_open (ltC cf) d a m b h1 h2 D j E (rotate d j m E) (rotate d j m E) HD.out ⟨hD1, hD2⟩ (by rw [if_neg h3, if_neg h3]; exact HPb.out.symm) HE.out.symm (by rw [if_pos ⟨c1a, c1b⟩]) (by rw [if_neg (fun h => c2b h.2)])
                    rw [if_neg (fun h => c3a h.1)] at hfin
                    rw [hfin]
                    exact S2.out
                  · have c3x : (D : Int) < (E : Int) := by omega
                    have c3y : ¬ (E : Int) < (b : Int) := by omega
                    go_wp2_with fail
                    go_end0
                    refine ⟨rfl, ?_⟩
                    have hfin := symMerge_open (ltC cf) d a m b h1 h2 D j E (rotate d j m E) (rotate d j m E) HD.out ⟨hD1, hD2⟩ (by rw [if_neg h3, if_neg h3]; exact HPb.out.symm) HE.out.symm (by rw [if_pos ⟨c1a, c1b⟩]) (by rw [if_neg (fun h => c2b h.2)])
                    rw [if_neg (fun h => c3b h.2)] at hfin
                    rw [hfin]
                    exact S2.out
              · have c1x : ¬ (j : Int) < (m : Int) := by omega
                rcases (show (a < j ∧ j < D) ∨ (¬ a < j) ∨ (a < j ∧ ¬ j < D) by omega) with ⟨c2a, c2b⟩ | c2a | ⟨c2a, c2b⟩
                · have c2x : (a : Int) < (j : Int) := by omega
                  have c2y : (j : Int) < (D : Int) := by omega
                  have hc30 := IH.out a j D (d) wr (by omega) Sk.out hn c2a c2b (by omega)
                  have hz2 : (symMerge (ltC cf) (d) a j D).size = n := (symMerge_perm (ltC cf) _ a j D (d) (Nat.le_refl _) c2a c2b (by rw [hn]; omega)).1.trans hn
                  go_wp2_with fail
                  refine hc30.mono ?_
                  rintro e w3 ⟨rfl, S3q⟩
                  have S3 : Aside _ := S3q
                  clear hc30 S3q
                  rcases (show (D < E ∧ E < b) ∨ (¬ D < E) ∨ (D < E ∧ ¬ E < b) by omega) with ⟨c3a, c3b⟩ | c3a | ⟨c3a, c3b⟩
                  · have c3x : (D : Int) < (E : Int) := by omega
                    have c3y : (E : Int) < (b : Int) := by omega
                    have hc31 := IH.out D E b (symMerge (ltC cf) (d) a j D) w3 (by omega) S3.out hz2 c3a c3b hb
                    go_wp2_with fail
                    refine hc31.mono ?_
                    rintro e w4 ⟨rfl, S4q⟩
                    have S4 : Aside _ := S4q
                    clear hc31 S4q
                    go_wp2_with fail
                    go_end0
                    refine ⟨rfl, ?_⟩
                    have hfin := symMerge_open (ltC cf) d a m b h1 h2 D j E (d) (symMerge (ltC cf) (d) a j D) HD.out ⟨hD1, hD2⟩ (by rw [if_neg h3, if_neg h3]; exact HPb.out.symm) HE.out.symm (by rw [if_neg (fun h => c1a h.1)]) (by rw [if_pos ⟨c2a, c2b⟩])
                    rw [if_pos ⟨c3a, c3b⟩] at hfin
                    rw [hfin]
                    exact S4.out
                  · have c3x : ¬ (D : Int) < (E : Int) := by omega
                    go_wp2_with fail
                    go_end0
                    refine ⟨rfl, ?_⟩
                    have hfin := symMerge_open (ltC cf) d a m b h1 h2 D j E (d) (symMerge (ltC cf) (d) a j D) HD.out ⟨hD1, hD2⟩ (by rw [if_neg h3, if_neg h3]; exact HPb.out.symm) HE.out.symm (by rw [if_neg (fun h => c1a h.1)]) (by rw [if_pos ⟨c2a, c2b⟩])
                    rw [if_neg (fun h => c3a h.1)] at hfin
                    rw [hfin]
                    exact S3.out
                  · have c3x : (D : Int) < (E : Int) := by omega
                    have c3y : ¬ (E : Int) < (b : Int) := by omega
                    go_wp2_with fail
                    go_end0
                    refine ⟨rfl, ?_⟩
                    have hfin := symMerge_open (ltC cf) d a m b h1 h2 D j E (d) (symMerge (ltC cf) (d) a j D) HD.out ⟨hD1, hD2⟩ (by rw [if_neg h3, if_neg h3]; exact HPb.out.symm) HE.out.symm (by rw [if_neg (fun h => c1a h.1)]) (by rw [if_pos ⟨c2a, c2b⟩])
                    rw [if_neg (fun h => c3b h.2)] at hfin
                    rw [hfin]
                    exact S3.out
                · have c2x : ¬ (a : Int) < (j : Int) := by omega
                  rcases (show (D < E ∧ E < b) ∨ (¬ D < E) ∨ (D < E ∧ ¬ E < b) by omega) with ⟨c3a, c3b⟩ | c3a | ⟨c3a, c3b⟩
                  · have c3x : (D : Int) < (E : Int) := by omega
                    have c3y : (E : Int) < (b : Int) := by omega
                    have hc31 := IH.out D E b (d) wr (by omega) Sk.out hn c3a c3b hb
                    go_wp2_with fail
                    refine hc31.mono ?_
                    rintro e w4 ⟨rfl, S4q⟩
                    have S4 : Aside _ := S4q
                    clear hc31 S4q
                    go_wp2_with fail
                    go_end0
                    refine ⟨rfl, ?_⟩
                    have hfin := symMerge_open (ltC cf) d a m b h1 h2 D j E (d) (d) HD.out ⟨hD1, hD2⟩ (by rw [if_neg h3, if_neg h3]; exact HPb.out.symm) HE.out.symm (by rw [if_neg (fun h => c1a h.1)]) (by rw [if_neg (fun h => c2a h.1)])
                    rw [if_pos ⟨c3a, c3b⟩] at hfin
                    rw [hfin]
                    exact S4.out
                  · have c3x : ¬ (D : Int) < (E : Int) := by omega
                    go_wp2_with fail
                    go_end0
                    refine ⟨rfl, ?_⟩
                    have hfin := symMerge_open (ltC cf) d a m b h1 h2 D j E (d) (d) HD.out ⟨hD1, hD2⟩ (by rw [if_neg h3, if_neg h3]; exact HPb.out.symm) HE.out.symm (by rw [if_neg (fun h => c1a h.1)]) (by rw [if_neg (fun h => c2a h.1)])
                    rw [if_neg (fun h => c3a h.1)] at hfin
                    rw [hfin]
                    exact Sk.out
                  · have c3x : (D : Int) < (E : Int) := by omega
                    have c3y : ¬ (E : Int) < (b : Int) := by omega
                    go_wp2_with fail
                    go_end0
                    refine ⟨rfl, ?_⟩
                    have hfin := symMerge_open (ltC cf) d a m b h1 h2 D j E (d) (d) HD.out ⟨hD1, hD2⟩ (by rw [if_neg h3, if_neg h3]; exact HPb.out.symm) HE.out.symm (by rw [if_neg (fun h => c1a h.1)]) (by rw [if_neg (fun h => c2a h.1)])
                    rw [if_neg (fun h => c3b h.2)] at hfin
                    rw [hfin]
                    exact Sk.out
                · have c2x : (a : Int) < (j : Int) := by omega
                  have c2y : ¬ (j : Int) < (D : Int) := by omega
                  rcases (show (D < E ∧ E < b) ∨ (¬ D < E) ∨ (D < E ∧ ¬ E < b) by omega) with ⟨c3a, c3b⟩ | c3a | ⟨c3a, c3b⟩
                  · have c3x : (D : Int) < (E : Int) := by omega
                    have c3y : (E : Int) < (b : Int) := by omega
                    have hc31 := IH.out D E b (d) wr (by omega) Sk.out hn c3a c3b hb
                    go_wp2_with fail
                    refine hc31.mono ?_
                    rintro e w4 ⟨rfl, S4q⟩
                    have S4 : Aside _ := S4q
                    clear hc31 S4q
                    go_wp2_with fail
                    go_end0
                    refine ⟨rfl, ?_⟩
                    have hfin := symMerge_open (ltC cf) d a m b h1 h2 D j E (d) (d) HD.out ⟨hD1, hD2⟩ (by rw [if_neg h3, if_neg h3]; exact HPb.out.symm) HE.out.symm (by rw [if_neg (fun h => c1a h.1)]) (by rw [if_neg (fun h => c2b h.2)])
                    rw [if_pos ⟨c3a, c3b⟩] at hfin
                    rw [hfin]
                    exact S4.out
                  · have c3x : ¬ (D : Int) < (E : Int) := by omega
                    go_wp2_with fail
                    go_end0
                    refine ⟨rfl, ?_⟩
                    have hfin := symMerge_open (ltC cf) d a m b h1 h2 D j E (d) (d) HD.out ⟨hD1, hD2⟩ (by rw [if_neg h3, if_neg h3]; exact HPb.out.symm) HE.out.symm (by rw [if_neg (fun h => c1a h.1)]) (by rw [if_neg (fun h => c2b h.2)])
                    rw [if_neg (fun h => c3a h.1)] at hfin
                    rw [hfin]
                    exact Sk.out
                  · have c3x : (D : Int) < (E : Int) := by omega
                    have c3y : ¬ (E : Int) < (b : Int) := by omega
                    go_wp2_with fail
                    go_end0
                    refine ⟨rfl, ?_⟩
                    have hfin := symMerge_open (ltC cf) d a m b h1 h2 D j E (d) (d) HD.out ⟨hD1, hD2⟩ (by rw [if_neg h3, if_neg h3]; exact HPb.out.symm) HE.out.symm (by rw [if_neg (fun h => c1a h.1)]) (by rw [if_neg (fun h => c2b h.2)])
                    rw [if_neg (fun h => c3b h.2)] at hfin
                    rw [hfin]
                    exact Sk.out
              · have c1x : (j : Int) < (m : Int) := by omega
                have c1y : ¬ (m : Int) < (E : Int) := by omega
                rcases (show (a < j ∧ j < D) ∨ (¬ a < j) ∨ (a < j ∧ ¬ j < D) by omega) with ⟨c2a, c2b⟩ | c2a | ⟨c2a, c2b⟩
                · have c2x : (a : Int) < (j : Int) := by omega
                  have c2y : (j : Int) < (D : Int) := by omega
                  have hc30 := IH.out a j D (d) wr (by omega) Sk.out hn c2a c2b (by omega)
                  have hz2 : (symMerge (ltC cf) (d) a j D).size = n := (symMerge_perm (ltC cf) _ a j D (d) (Nat.le_refl _) c2a c2b (by rw [hn]; omega)).1.trans hn
                  go_wp2_with fail
                  refine hc30.mono ?_
                  rintro e w3 ⟨rfl, S3q⟩
                  have S3 : Aside _ := S3q
                  clear hc30 S3q
                  rcases (show (D < E ∧ E < b) ∨ (¬ D < E) ∨ (D < E ∧ ¬ E < b) by omega) with ⟨c3a, c3b⟩ | c3a | ⟨c3a, c3b⟩
                  · have c3x : (D : Int) < (E : Int) := by omega
                    have c3y : (E : Int) < (b : Int) := by omega
                    have hc31 := IH.out D E b (symMerge (ltC cf) (d) a j D) w3 (by omega) S3.out hz2 c3a c3b hb
                    go_wp2_with fail
                    refine hc31.mono ?_
                    rintro e w4 ⟨rfl, S4q⟩
                    have S4 : Aside _ := S4q
                    clear hc31 S4q
                    go_wp2_with fail
                    go_end0
                    refine ⟨rfl, ?_⟩
                    have hfin := symMerge_open (ltC cf) d a m b h1 h2 D j E (d) (symMerge (ltC cf) (d) a j D) HD.out ⟨hD1, hD2⟩ (by rw [if_neg h3, if_neg h3]; exact HPb.out.symm) HE.out.symm (by rw [if_neg (fun h => c1b h.2)]) (by rw [if_pos ⟨c2a, c2b⟩])
                    rw [if_pos ⟨c3a, c3b⟩] at hfin
                    rw [hfin]
                    exact S4.out
                  · have c3x : ¬ (D : Int) < (E : Int) := by omega
                    go_wp2_with fail
                    go_end0
                    refine ⟨rfl, ?_⟩
                    have hfin := symMerge_open (ltC cf) d a m b h1 h2 D j E (d) (symMerge (ltC cf) (d) a j D) HD.out ⟨hD1, hD2⟩ (by rw [if_neg h3, if_neg h3]; exact HPb.out.symm) HE.out.symm (by rw [if_neg (fun h => c1b h.2)]) (by rw [if_pos ⟨c2a, c2b⟩])
                    rw [if_neg (fun h => c3a h.1)] at hfin
                    rw [hfin]
                    exact S3.out
                  · have c3x : (D : Int) < (E : Int) := by omega
                    have c3y : ¬ (E : Int) < (b : Int) := by omega
                    go_wp2_with fail
                    go_end0
                    refine ⟨rfl, ?_⟩
                    have hfin := symMerge_open (ltC cf) d a m b h1 h2 D j E (d) (symMerge (ltC cf) (d) a j D) HD.out ⟨hD1, hD2⟩ (by rw [if_neg h3, if_neg h3]; exact HPb.out.symm) HE.out.symm (by rw [if_neg (fun h => c1b h.2)]) (by rw [if_pos ⟨c2a, c2b⟩])
                    rw [if_neg (fun h => c3b h.2)] at hfin
                    rw [hfin]
                    exact S3.out
                · have c2x : ¬ (a : Int) < (j : Int) := by omega
                  rcases (show (D < E ∧ E < b) ∨ (¬ D < E) ∨ (D < E ∧ ¬ E < b) by omega) with ⟨c3a, c3b⟩ | c3a | ⟨c3a, c3b⟩
                  · have c3x : (D : Int) < (E : Int) := by omega
                    have c3y : (E : Int) < (b : Int) := by omega
                    have hc31 := IH.out D E b (d) wr (by omega) Sk.out hn c3a c3b hb
                    go_wp2_with fail
                    refine hc31.mono ?_
                    rintro e w4 ⟨rfl, S4q⟩
                    have S4 : Aside _ := S4q
                    clear hc31 S4q
                    go_wp2_with fail
                    go_end0
                    refine ⟨rfl, ?_⟩
                    have hfin := symMerge_open (ltC cf) d a m b h1 h2 D j E (d) (d) HD.out ⟨hD1, hD2⟩ (by rw [if_neg h3, if_neg h3]; exact HPb.out.symm) HE.out.symm (by rw [if_neg (fun h => c1b h.2)]) (by rw [if_neg (fun h => c2a h.1)])
                    rw [if_pos ⟨c3a, c3b⟩] at hfin
                    rw [hfin]
                    exact S4.out
                  · have c3x : ¬ (D : Int) < (E : Int) := by omega
                    go_wp2_with fail
                    go_end0
                    refine ⟨rfl, ?_⟩
                    have hfin := symMerge_open (ltC cf) d a m b h1 h2 D j E (d) (d) HD.out ⟨hD1, hD2⟩ (by rw [if_neg h3, if_neg h3]; exact HPb.out.symm) HE.out.symm (by rw [if_neg (fun h => c1b h.2)]) (by rw [if_neg (fun h => c2a h.1)])
                    rw [if_neg (fun h => c3a h.1)] at hfin
                    rw [hfin]
                    exact Sk.out
                  · have c3x : (D : Int) < (E : Int) := by omega
                    have c3y : ¬ (E : Int) < (b : Int) := by omega
                    go_wp2_with fail
                    go_end0
                    refine ⟨rfl, ?_⟩
                    have hfin := symMerge_open (ltC cf) d a m b h1 h2 D j E (d) (d) HD.out ⟨hD1, hD2⟩ (by rw [if_neg h3, if_neg h3]; exact HPb.out.symm) HE.out.symm (by rw [if_neg (fun h => c1b h.2)]) (by rw [if_neg (fun h => c2a h.1)])
                    rw [if_neg (fun h => c3b h.2)] at hfin
                    rw [hfin]
                    exact Sk.out
                · have c2x : (a : Int) < (j : Int) := by omega
                  have c2y : ¬ (j : Int) < (D : Int) := by omega
                  rcases (show (D < E ∧ E < b) ∨ (¬ D < E) ∨ (D < E ∧ ¬ E < b) by omega) with ⟨c3a, c3b⟩ | c3a | ⟨c3a, c3b⟩
                  · have c3x : (D : Int) < (E : Int) := by omega
                    have c3y : (E : Int) < (b : Int) := by omega
                    have hc31 := IH.out D E b (d) wr (by omega) Sk.out hn c3a c3b hb
                    go_wp2_with fail
                    refine hc31.mono ?_
                    rintro e w4 ⟨rfl, S4q⟩
                    have S4 : Aside _ := S4q
                    clear hc31 S4q
                    go_wp2_with fail
                    go_end0
                    refine ⟨rfl, ?_⟩
                    have hfin := symMerge_open (ltC cf) d a m b h1 h2 D j E (d) (d) HD.out ⟨hD1, hD2⟩ (by rw [if_neg h3, if_neg h3]; exact HPb.out.symm) HE.out.symm (by rw [if_neg (fun h => c1b h.2)]) (by rw [if_neg (fun h => c2b h.2)])
                    rw [if_pos ⟨c3a, c3b⟩] at hfin
                    rw [hfin]
                    exact S4.out
                  · have c3x : ¬ (D : Int) < (E : Int) := by omega
                    go_wp2_with fail
                    go_end0
                    refine ⟨rfl, ?_⟩
                    have hfin := symMerge_open (ltC cf) d a m b h1 h2 D j E (d) (d) HD.out ⟨hD1, hD2⟩ (by rw [if_neg h3, if_neg h3]; exact HPb.out.symm) HE.out.symm (by rw [if_neg (fun h => c1b h.2)]) (by rw [if_neg (fun h => c2b h.2)])
                    rw [if_neg (fun h => c3a h.1)] at hfin
                    rw [hfin]
                    exact Sk.out
                  · have c3x : (D : Int) < (E : Int) := by omega
                    have c3y : ¬ (E : Int) < (b : Int) := by omega
                    go_wp2_with fail
                    go_end0
                    refine ⟨rfl, ?_⟩
                    have hfin := symMerge_open (ltC cf) d a m b h1 h2 D j E (d) (d) HD.out ⟨hD1, hD2⟩ (by rw [if_neg h3, if_neg h3]; exact HPb.out.symm) HE.out.symm (by rw [if_neg (fun h => c1b h.2)]) (by rw [if_neg (fun h => c2b h.2)])
                    rw [if_neg (fun h => c3b h.2)] at hfin
                    rw [hfin]
                    exact Sk.out
end Go.Proofs.Ytglgmkikegbchaa
