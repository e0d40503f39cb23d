/- impl.Rows, walked. -/
import Derived.Test.YtglgmkikegbchaaaArms
import Derived.Test.YtglgmkikegbchaaaFront
import Derived.StillTailTactics
import Derived.Deep.CutBlock
import Derived.Defers
import Derived.Recover
import Derived.OwnWalk
import Derived.Deep.CutRange
import Derived.Deep.LoopGhost
import Derived.BigQuiet
import Derived.Deep.QuietTactic
namespace Go.Proofs.Ytglgmkikegbchaa
open Go.RowKit

theorem hide {p : Prop} (h : p) : Aside p := h
/-- guarded, of a function that returns. -/
theorem guardedR_idle (p : Addr) (w : World) :
    CallsD Try.prog 33 #[.pointer (some p)] .returning w fun e u' w' => e = .returned (.tuple #[]) ∧ u' = .returning ∧ w' = w := by
  refine callsD_of_wpS Try.func33 rfl fun c₀ cs hu => ?_
  apply wpS_seq
  apply wpS_region
  simp [wpOpsS, go_sem, recoverD, hu, Try.ntmps33, Exit.thenS]
  refine wpS_cond (t := false) (by simp [Act.eval, Array.replicate]) ?_
  simp only [Bool.false_eq_true, if_false]
  refine wpS_of_wp (wp_skip ?_)
  cases c₀
  simp_all [bodyPostS, results, Try.results33]

theorem assertI (v : Value) (w : World) : (Instr.typeAssert (.iface 3 v) 20 3 false).run Try.prog w = .ok v w := by kernel_rfl

/-- A list of steps that is read. -/
def Rd3 (w : World) (a : Option Addr) (d : Array Stp) : Prop := 0 < d.size → ∃ blk off, a = some ⟨blk, off, none⟩ ∧ blk < w.heap.size ∧ ∀ i, i < d.size → w.cell? ⟨blk, off + i * 3, none⟩ = some (.int .i64 d[i]!.k) ∧ w.cell? ⟨blk, off + i * 3 + 1, none⟩ = some (.int .i64 d[i]!.a) ∧ w.cell? ⟨blk, off + i * 3 + 2, none⟩ = some (.int .i64 d[i]!.b)
theorem Rd3.below {B : Nat} {w w' : World} {a : Option Addr} {d : Array Stp} (h : Rd3 w a d) (hb : Below B w w') (hB : w.heap.size ≤ B) : Rd3 w' a d := fun h0 => by
  obtain ⟨blk, off, e, hl, hc⟩ := h h0
  have hk : ∀ o, w'.cell? ⟨blk, o, none⟩ = w.cell? ⟨blk, o, none⟩ := fun o => hb.cell (p := ⟨blk, o, none⟩) (Nat.lt_of_lt_of_le hl hB)
  exact ⟨blk, off, e, Nat.lt_of_lt_of_le hl hb.size, fun i hi => by rw [hk, hk, hk]; exact hc i hi⟩

set_option maxHeartbeats 4000000 in
set_option maxRecDepth 1000000 in
theorem there_calls (A M bm mc : Nat) (ad : Option Addr) (W : World) (h : W.cell? ⟨bm, 0, none⟩ = some (.slice ad M mc)) (z1 : (A : Int) < (M : Int)) :
    Calls Try.prog 61 #[.int .i64 A, .pointer (some ⟨bm, 0, none⟩)] W fun e w' => e = .returned (.bool true) ∧ w' = W := by
  have z0 : (0 : Int) ≤ (A : Int) := by omega
  go_enter Try.func61, Try.ntmps61
  go_wp2_with fail
  go_ret
  exact ⟨rfl, rfl⟩

/-- What comes of Rows. -/
def RowsTo (d : Array Stp) (w0 : World) (n : Nat) (e : Ending) (w : World) : Prop := ∃ v2 vs, e = .returned (.tuple #[v2, .bool true]) ∧ w.ownsRow w0.heap.size 59 1 v2 n vs ∧ RowsI w vs (rowsP d n) ∧ Below w0.heap.size w0 w

set_option maxHeartbeats 8000000 in
set_option maxRecDepth 1000000 in
theorem rows_calls (a : Option Addr) (cap n : Nat) (d : Array Stp) (w : World) (h : Rd3 w a d) (hn : d.size = n) (hsz : n ≤ 400) (hok : ∀ i, i < n → okP (stP d i) d[i]!) :
    Calls Try.prog 29 #[.slice a n cap] w (RowsTo d w n) := by
  have H : Aside (Rd3 w a d ∧ d.size = n ∧ ∀ i, i < n → okP (stP d i) d[i]!) := ⟨h, hn, hok⟩
  clear h hn hok
  have hmf : ∀ (fn : Fn) (first cap : Array Value) (w : World), (Instr.makeFunc fn first cap).run Try.prog w = .ok (.func fn first cap) w := fun _ _ _ _ => rfl
  obtain ⟨W0, hW0⟩ : ∃ W, W = w.alloc (.cells #[.bool false] 4) := ⟨_, rfl⟩
  have B0 : Below w.heap.size w W0 := by rw [hW0]; exact (Below.refl _ w).alloc (Nat.le_refl _) _
  have b0 : Box 4 w.heap.size W0 w.heap.size (.bool false) := by rw [hW0]; exact box_new w _ _ (Nat.le_refl _)
  have CN : Aside (Calls Try.prog 60 #[] W0 fun ev w' => ∃ L, ev = .returned (vP L) ∧ MovR w.heap.size W0 L (fun _ => 0) 0 0 [] w') := new_calls W0 (by rw [hW0]; simp)
  have F0 : Aside (Below w.heap.size w W0 ∧ Box 4 w.heap.size W0 w.heap.size (.bool false)) := ⟨B0, b0⟩
  have HW : Aside _ := hW0
  clear B0 b0 hW0
  go_enter_defers Try.func29, Try.ntmps29
  go_upto_region 1 with fail
  rw [← HW.out]
  clear HW
  go_upto_region 4 with (refine CN.out.mono ?_; rintro ev w1 ⟨L, rfl, hM⟩)
  obtain ⟨W2, hW2⟩ : ∃ W, W = w1.alloc (.cells #[.slice none 0 0] 99) := ⟨_, rfl⟩
  have B2 : Below w1.heap.size w1 W2 := by rw [hW2]; exact (Below.refl _ w1).alloc (Nat.le_refl _) _
  have hs1 : w.heap.size ≤ w1.heap.size := Nat.le_trans F0.out.1.size hM.2.size
  have R0 : Aside (RI d w L w1.heap.size w.heap.size (stP d 0) 0 (.slice none 0 0) W2) := by
    have b1 := F0.out.2.fr hM.2 (by unfold LT; decide)
    refine ⟨fun _ => 0, 0, .slice none 0 0, [], rfl, hM.1.fr (fr_below (S := fun _ => False) (n1 := 0) B2) (fun _ _ h => h), World.ownsRow_nil _ _ _ _, by rw [hW2]; exact box_new w1 _ _ hs1, b1.below B2, World.ownsRow_nil _ _ _ _, ⟨rfl, fun j v r hv => by simp at hv⟩, (Below.fr F0.out.1 hM.2).trans (B2.mono hs1)⟩
  obtain ⟨bm, hbm⟩ : ∃ b, b = w1.heap.size := ⟨_, rfl⟩
  rw [← hW2]
  rw [← hbm] at R0 ⊢
  clear hW2 hbm hs1 B2 hM CN F0
  go_wp2_with fail
  go_loopg [2, 16] n (fun g v2 vi wr => ∃ i : Nat, vi = .int .i64 i ∧ i ≤ n ∧ n - i ≤ g ∧ Aside (RI d w L bm w.heap.size (stP d i) i v2 wr))
  case atStart => exact ⟨0, rfl, by omega, by omega, R0⟩
  case round =>
    clear R0
    obtain ⟨i, rfl, hi, hg, HR⟩ := hrel
    by_cases hlt : i < n
    · have hltz : (i : Int) < (n : Int) := by omega
      obtain ⟨hd, hdn, hok⟩ := H.out
      obtain ⟨blk, off, rfl, hbl, hc⟩ := hd (by omega)
      have hw0 : w.heap.size ≤ wr.heap.size ∧ Below w.heap.size w wr := by
        obtain ⟨_, _, _, _, _, _, hp⟩ := HR.out
        exact ⟨hp.bel.size, hp.bel⟩
      obtain ⟨c0, c1, c2⟩ := hc i (by omega)
      obtain ⟨s, hs⟩ : ∃ s, s = d[i]! := ⟨_, rfl⟩
      obtain ⟨sk, sa, sb⟩ := s
      rw [← hs] at c0 c1 c2
      replace c0 : wr.cell? ⟨blk, off + i * 3, none⟩ = some (.int .i64 sk) := (hw0.2.cell (p := ⟨blk, off + i * 3, none⟩) hbl).trans c0
      replace c1 : wr.cell? ⟨blk, off + i * 3 + 1, none⟩ = some (.int .i64 sa) := (hw0.2.cell (p := ⟨blk, off + i * 3 + 1, none⟩) hbl).trans c1
      replace c2 : wr.cell? ⟨blk, off + i * 3 + 2, none⟩ = some (.int .i64 sb) := (hw0.2.cell (p := ⟨blk, off + i * 3 + 2, none⟩) hbl).trans c2
      have OK := hok i hlt
      rw [← hs] at OK
      have OKA : Aside (okP (stP d i) ⟨sk, sa, sb⟩) := OK
      have HS : Aside (d[i]! = ⟨sk, sa, sb⟩) := hs.symm
      clear hd hdn hok hc OK hs hw0 hbl
      go_upto_region 9 with fail
      obtain ⟨W, hW⟩ : ∃ W, W = wr.alloc (.cells #[.int .i64 sk, .int .i64 sa, .int .i64 sb] 93) := ⟨_, rfl⟩
      obtain ⟨sx, hsx⟩ : ∃ b, b = wr.heap.size := ⟨_, rfl⟩
      have hnew := heap_alloc_new wr (.cells #[.int .i64 sk, .int .i64 sa, .int .i64 sb] 93)
      rw [← hW, ← hsx] at hnew
      have RW : Aside (RI d w L bm w.heap.size (stP d i) i u2 W) := by
        have hb : Below wr.heap.size wr W := by rw [hW]; exact (Below.refl _ wr).alloc (Nat.le_refl _) _
        exact HR.out.below hb
      have s0 : W.cell? ⟨sx, 0, none⟩ = some (.int .i64 sk) := cell_of_row _ _ 0 _ _ _ hnew
      have s1 : W.cell? ⟨sx, 1, none⟩ = some (.int .i64 sa) := cell_of_row _ _ 1 _ _ _ hnew
      have s2 : W.cell? ⟨sx, 2, none⟩ = some (.int .i64 sb) := cell_of_row _ _ 2 _ _ _ hnew
      rw [← hW, ← hsx]
      clear hnew hW hsx HR c0 c1 c2
      obtain ⟨hk, hka, hkb⟩ : (0 ≤ sk ∧ sk < 10) ∧ (2 ≤ sk → sk ≤ 8 → (stP d i).f ≤ sa ∧ sa < (stP d i).m) ∧ (7 ≤ sk → sk ≤ 8 → (stP d i).f ≤ sb ∧ sb < (stP d i).m) := OKA.out
      clear OKA
      obtain ⟨E, M, vm, vs, hM, hl, hp⟩ := RW.out
      have hvm : ∃ ad c, vm = .slice ad M c ∧ ∀ A : Nat, A < M → ∃ g, ad = some ⟨g, 0, none⟩ ∧ W.cell? ⟨g, A, none⟩ = some (vP (E A)) ∧ M ≤ c := by
        rcases hp.made.2 with ⟨h1, h2⟩ | ⟨g, c, cur, h1, _, hg, hc1, _, _, htk⟩
        · exact ⟨none, 0, by rw [h1, h2], fun A hA => by omega⟩
        · refine ⟨_, c, h1, fun A hA => ⟨g, rfl, ?_, hc1⟩⟩
          have := hp.made.cells (g := g) (by rw [h1]; rfl) A _ (elsL_get E hA)
          rwa [Addr.add_lit, Nat.zero_add] at this
      obtain ⟨ad, mc, rfl, hcl⟩ := hvm
      have bmc := hp.boxM.cell
      have HL : Aside (Lst vI LT w.heap.size W L E (stP d i).m (stP d i).f (stP d i).r) := hl
      have HP : Aside (RP d w bm w.heap.size E M (.slice ad M mc) vs i u2 W) := hp
      have HM : Aside ((M : Int) = (stP d i).m) := hM
      have hi4 : Aside (i ≤ 400) := by show i ≤ 400; omega
      have HCL : Aside _ := hcl
      have hf0 := hl.f0
      have HA : Aside (2 ≤ sk → sk ≤ 8 → ∃ A : Nat, sa = A ∧ A < M ∧ (stP d i).f ≤ sa ∧ sa < (stP d i).m) := fun h1 h2 => ⟨sa.toNat, by have := hka h1 h2; omega, by have := hka h1 h2; omega, hka h1 h2⟩
      have HB : Aside (7 ≤ sk → sk ≤ 8 → ∃ B : Nat, sb = B ∧ B < M ∧ (stP d i).f ≤ sb ∧ sb < (stP d i).m) := fun h1 h2 => ⟨sb.toNat, by have := hkb h1 h2; omega, by have := hkb h1 h2; omega, hkb h1 h2⟩
      have hcases : sk = 0 ∨ sk = 1 ∨ sk = 9 ∨ (sk = 2 ∨ sk = 3 ∨ sk = 4 ∨ sk = 5 ∨ sk = 6) ∨ sk = 7 ∨ sk = 8 := by omega
      clear hl hp hM RW hcl hk hka hkb hf0
      go_cut [51] from 20 to 51 (fun v51 wx => v51 = .bool false ∧ wx = W)
      case first =>
        rcases hcases with rfl | rfl | rfl | hc | hc
        · as_aux_lemma =>
          clear HL HP HM HCL HA HB HS
          go_wp2_with fail
          go_meet
          case rel => exact ⟨rfl, rfl⟩
        · as_aux_lemma =>
          clear HL HP HM HCL HA HB HS
          go_wp2_with fail
          go_meet
          case rel => exact ⟨rfl, rfl⟩
        · as_aux_lemma =>
          clear HL HP HM HCL HA HB HS
          go_wp2_with fail
          go_meet
          case rel => exact ⟨rfl, rfl⟩
        · as_aux_lemma =>
          obtain ⟨A, rfl, hA, _⟩ := HA.out (by omega) (by omega)
          have C1 := hide (there_calls A M bm mc ad W bmc (by omega))
          clear HL HP HM HCL HA HB HS hA
          rcases hc with rfl | rfl | rfl | rfl | rfl
          all_goals (go_wp2_with fail; refine C1.out.mono ?_; rintro e wz ⟨rfl, hwz⟩; subst hwz; go_wp2_with fail; go_meet; exact ⟨rfl, rfl⟩)
        · as_aux_lemma =>
          obtain ⟨A, rfl, hA, _⟩ := HA.out (by omega) (by omega)
          obtain ⟨B, rfl, hB, _⟩ := HB.out (by omega) (by omega)
          have C1 := hide (there_calls A M bm mc ad W bmc (by omega))
          have C2 := hide (there_calls B M bm mc ad W bmc (by omega))
          clear HL HP HM HCL HA HB HS hA hB
          rcases hc with rfl | rfl
          all_goals (go_wp2_with fail; refine C1.out.mono ?_; rintro e wz ⟨rfl, hwz⟩; subst hwz; go_wp2_with fail; refine C2.out.mono ?_; rintro e wy ⟨rfl, hwz⟩; subst hwz; go_wp2_with fail; go_meet; exact ⟨rfl, rfl⟩)
      case rest =>
        obtain ⟨rfl, rfl⟩ := hcut
        go_upto_block 2 with fail
        go_cut [2, 9] from 52 to 150 (fun v2 v9 wx => v2 = u2 ∧ Aside (SWI d w L bm w.heap.size i u2 v9 wx))
        case first =>
          rcases hcases with rfl | rfl | rfl | (rfl | rfl | rfl | rfl | rfl) | (rfl | rfl)
          · as_aux_lemma =>
            have C := hide (arm0 HM.out HL.out HP.out hi4.out HS.out)
            clear HL HP HM HCL HA HB HS hi4
            go_wp2_with fail
            refine C.out.mono ?_
            rintro e wz ⟨v9, rfl, hwz⟩
            go_wp2_with fail
            go_meet
            case rel => exact ⟨rfl, hwz⟩
          · as_aux_lemma =>
            have C := hide (arm1 HM.out HL.out HP.out hi4.out HS.out)
            clear HL HP HM HCL HA HB HS hi4
            go_wp2_with fail
            refine C.out.mono ?_
            rintro e wz ⟨v9, rfl, hwz⟩
            go_wp2_with fail
            go_meet
            case rel => exact ⟨rfl, hwz⟩
          · as_aux_lemma =>
            have C := hide (arm9 HM.out HL.out HP.out HS.out)
            clear HL HP HM HCL HA HB HS hi4
            go_wp2_with fail
            refine C.out.mono ?_
            rintro e wz ⟨⟨v9, rfl⟩, hwz⟩
            go_wp2_with fail
            go_meet
            case rel => exact ⟨rfl, hwz⟩
          · as_aux_lemma =>
            obtain ⟨A, rfl, hA, a1, a2⟩ := HA.out (by omega) (by omega)
            obtain ⟨ga, rfl, e1, hmc⟩ := HCL.out A hA
            have HLd : Aside (Lst vI LT w.heap.size wc.drew L E (stP d i).m (stP d i).f (stP d i).r) := HL.out.fr (S' := fun _ => False) (n1 := 0) ((Fr.refl _ _ _).drew) (fun _ _ h => h)
            have HPd : Aside (RP d w bm w.heap.size E M (.slice (some ⟨ga, 0, none⟩) M mc) vs i u2 wc.drew) := HP.out.below (Below.refl _ _).drew
            have C := hide (arm2 HM.out HLd.out HPd.out hi4.out HS.out a1 a2)
            have zA : (A : Int) < (M : Int) := by omega
            clear HL HP HM HCL HA HB HS hi4 HLd HPd hA a1 a2 hmc
            go_upto_region 18 with fail
            go_still_tail 9, (by kernel_rfl)
            change wpList _ _ _ _ _ wc.drew
            clear s0 s1 s2 bmc e1
            generalize wc.drew = V at C ⊢
            go_wp2_with fail
            refine C.out.mono ?_
            rintro e wz ⟨v9, rfl, hwz⟩
            go_wp2_with fail
            go_meet
            case rel => exact ⟨rfl, hwz⟩
          · as_aux_lemma =>
            obtain ⟨A, rfl, hA, a1, a2⟩ := HA.out (by omega) (by omega)
            obtain ⟨ga, rfl, e1, hmc⟩ := HCL.out A hA
            have HLd : Aside (Lst vI LT w.heap.size wc.drew L E (stP d i).m (stP d i).f (stP d i).r) := HL.out.fr (S' := fun _ => False) (n1 := 0) ((Fr.refl _ _ _).drew) (fun _ _ h => h)
            have HPd : Aside (RP d w bm w.heap.size E M (.slice (some ⟨ga, 0, none⟩) M mc) vs i u2 wc.drew) := HP.out.below (Below.refl _ _).drew
            have C := hide (arm3 HM.out HLd.out HPd.out hi4.out HS.out a1 a2)
            have zA : (A : Int) < (M : Int) := by omega
            clear HL HP HM HCL HA HB HS hi4 HLd HPd hA a1 a2 hmc
            go_upto_region 20 with fail
            go_still_tail 9, (by kernel_rfl)
            change wpList _ _ _ _ _ wc.drew
            clear s0 s1 s2 bmc e1
            generalize wc.drew = V at C ⊢
            go_wp2_with fail
            refine C.out.mono ?_
            rintro e wz ⟨v9, rfl, hwz⟩
            go_wp2_with fail
            go_meet
            case rel => exact ⟨rfl, hwz⟩
          · as_aux_lemma =>
            obtain ⟨A, rfl, hA, a1, a2⟩ := HA.out (by omega) (by omega)
            obtain ⟨ga, rfl, e1, hmc⟩ := HCL.out A hA
            have C := hide (arm4 HM.out HL.out HP.out hi4.out HS.out a1 a2)
            have zA : (A : Int) < (M : Int) := by omega
            clear HL HP HM HCL HA HB HS hi4 hA a1 a2 hmc
            go_wp2_with fail
            refine C.out.mono ?_
            rintro e wz ⟨⟨v9, rfl⟩, hwz⟩
            go_wp2_with fail
            go_meet
            case rel => exact ⟨rfl, hwz⟩
          · as_aux_lemma =>
            obtain ⟨A, rfl, hA, a1, a2⟩ := HA.out (by omega) (by omega)
            obtain ⟨ga, rfl, e1, hmc⟩ := HCL.out A hA
            have C := hide (arm5 HM.out HL.out HP.out HS.out a1 a2)
            have zA : (A : Int) < (M : Int) := by omega
            clear HL HP HM HCL HA HB HS hi4 hA a1 a2 hmc
            go_wp2_with fail
            refine C.out.mono ?_
            rintro e wz ⟨⟨v9, rfl⟩, hwz⟩
            go_wp2_with fail
            go_meet
            case rel => exact ⟨rfl, hwz⟩
          · as_aux_lemma =>
            obtain ⟨A, rfl, hA, a1, a2⟩ := HA.out (by omega) (by omega)
            obtain ⟨ga, rfl, e1, hmc⟩ := HCL.out A hA
            have C := hide (arm6 HM.out HL.out HP.out HS.out a1 a2)
            have zA : (A : Int) < (M : Int) := by omega
            clear HL HP HM HCL HA HB HS hi4 hA a1 a2 hmc
            go_wp2_with fail
            refine C.out.mono ?_
            rintro e wz ⟨⟨v9, rfl⟩, hwz⟩
            go_wp2_with fail
            go_meet
            case rel => exact ⟨rfl, hwz⟩
          · as_aux_lemma =>
            obtain ⟨A, rfl, hA, a1, a2⟩ := HA.out (by omega) (by omega)
            obtain ⟨ga, rfl, e1, hmc⟩ := HCL.out A hA
            obtain ⟨B, rfl, hB, b1, b2⟩ := HB.out (by omega) (by omega)
            have e2 : wc.cell? ⟨ga, B, none⟩ = some (vP (E B)) := by
              obtain ⟨gb, hgb, e2, _⟩ := HCL.out B hB
              cases hgb
              exact e2
            have HLd : Aside (Lst vI LT w.heap.size wc.drew L E (stP d i).m (stP d i).f (stP d i).r) := HL.out.fr (S' := fun _ => False) (n1 := 0) ((Fr.refl _ _ _).drew) (fun _ _ h => h)
            have HPd : Aside (RP d w bm w.heap.size E M (.slice (some ⟨ga, 0, none⟩) M mc) vs i u2 wc.drew) := HP.out.below (Below.refl _ _).drew
            have C := hide (arm7 HM.out HLd.out HPd.out HS.out a1 a2 b1 b2)
            have zA : (A : Int) < (M : Int) := by omega
            have zB : (B : Int) < (M : Int) := by omega
            clear HL HP HM HCL HA HB HS hi4 HLd HPd hA a1 a2 hmc hB b1 b2
            go_upto_region 28 with fail
            go_still_tail 11, (by kernel_rfl)
            change wpList _ _ _ _ _ wc.drew
            clear s0 s1 s2 bmc e1 e2
            generalize wc.drew = V at C ⊢
            go_wp2_with fail
            refine C.out.mono ?_
            rintro e wz ⟨⟨v9, rfl⟩, hwz⟩
            go_wp2_with fail
            go_meet
            case rel => exact ⟨rfl, hwz⟩
          · as_aux_lemma =>
            obtain ⟨A, rfl, hA, a1, a2⟩ := HA.out (by omega) (by omega)
            obtain ⟨ga, rfl, e1, hmc⟩ := HCL.out A hA
            obtain ⟨B, rfl, hB, b1, b2⟩ := HB.out (by omega) (by omega)
            have e2 : wc.cell? ⟨ga, B, none⟩ = some (vP (E B)) := by
              obtain ⟨gb, hgb, e2, _⟩ := HCL.out B hB
              cases hgb
              exact e2
            have HLd : Aside (Lst vI LT w.heap.size wc.drew L E (stP d i).m (stP d i).f (stP d i).r) := HL.out.fr (S' := fun _ => False) (n1 := 0) ((Fr.refl _ _ _).drew) (fun _ _ h => h)
            have HPd : Aside (RP d w bm w.heap.size E M (.slice (some ⟨ga, 0, none⟩) M mc) vs i u2 wc.drew) := HP.out.below (Below.refl _ _).drew
            have C := hide (arm8 HM.out HLd.out HPd.out HS.out a1 a2 b1 b2)
            have zA : (A : Int) < (M : Int) := by omega
            have zB : (B : Int) < (M : Int) := by omega
            clear HL HP HM HCL HA HB HS hi4 HLd HPd hA a1 a2 hmc hB b1 b2
            go_upto_region 30 with fail
            go_still_tail 11, (by kernel_rfl)
            change wpList _ _ _ _ _ wc.drew
            clear s0 s1 s2 bmc e1 e2
            generalize wc.drew = V at C ⊢
            go_wp2_with fail
            refine C.out.mono ?_
            rintro e wz ⟨⟨v9, rfl⟩, hwz⟩
            go_wp2_with fail
            go_meet
            case rel => exact ⟨rfl, hwz⟩
        case rest =>
          obtain ⟨h2, HI⟩ := hcut
          subst h2
          clear HL HP HM HCL HA HB HS s0 s1 s2 bmc hi4 hcases
          obtain ⟨E, M, vm, vs, hM, hsw, hp⟩ := HI.out
          obtain ⟨B, hB⟩ : ∃ B, B = (rowP (stP d i).r (stP d i).m d[i]!).2 := ⟨_, rfl⟩
          have HQ : Aside ((B = true ∧ ∃ e, u9 = vP e) ∨ (B = false ∧ u9 = vNil)) := by
            rcases hsw with ⟨h1, e, _, rfl, _⟩ | ⟨h1, rfl, _⟩
            · exact Or.inl ⟨hB.trans h1, e, rfl⟩
            · exact Or.inr ⟨hB.trans h1, rfl⟩
          have HB : Aside _ := hB
          have bmc := hp.boxM.cell
          have bmf := hp.boxM.frozen 0
          have HX : Aside ((M : Int) = (stP d i).m ∧ SW d w L E M i u9 wc ∧ RP d w bm w.heap.size E M vm vs i u2 wc) := ⟨hM, hsw, hp⟩
          clear hM hsw hp HI hB
          go_upto_region 33 with fail
          go_cut [152] from 151 to 152 (fun v152 wx => v152 = .bool B ∧ wx = wc)
          case first =>
            clear HX HB bmc bmf
            rcases HQ.out with ⟨rfl, e, rfl⟩ | ⟨rfl, rfl⟩
            · have q := neE_nil wc e
              clear HQ
              go_wp2_with fail
              go_meet
              case rel => exact ⟨rfl, rfl⟩
            · have q := neN_nil wc
              clear HQ
              go_wp2_with fail
              go_meet
              case rel => exact ⟨rfl, rfl⟩
          case rest =>
          obtain ⟨rfl, rfl⟩ := hcut
          clear HQ
          go_upto_if 152 with fail
          go_cut [] from 153 to 156 (fun wx => Aside (RI d w L bm w.heap.size (stP d (i + 1)) i u2 wx))
          case first => as_aux_lemma =>
            obtain ⟨hM, hsw, hp⟩ := HX.out
            clear HX
            have hst : stP d (i + 1) = stepP (stP d i) d[i]! := rfl
            rcases hsw with ⟨h1, e, E', rfl, hl, hE, hEm⟩ | ⟨h1, rfl, hl⟩
            · obtain rfl : B = true := by rw [HB.out, h1]
              have hMM : Aside (M ≤ 400) := by have := stP_bounds d i; show M ≤ 400; omega
              have hb : Below wc.heap.size wc (wc.alloc (.cells #[vP e] 100)) := (Below.refl _ wc).alloc (Nat.le_refl _) _
              have HPX : Aside (RP d w bm w.heap.size E M vm vs i u2 (wc.alloc (.cells #[vP e] 100))) := hp.below hb
              have HLX : Aside (Lst vI LT w.heap.size (wc.alloc (.cells #[vP e] 100)) L E' ((stP d i).m + 1) (stP d (i + 1)).f (rowP (stP d i).r (stP d i).m d[i]!).1) := hl.fr (fr_below (S := fun _ => False) (n1 := 0) hb) (fun _ _ h => h)
              have hws : w.heap.size ≤ (wc.alloc (.cells #[vP e] 100)).heap.size := Nat.le_trans hp.bel.size hb.size
              have HE : Aside ((∀ j, j ≠ (M : Int) → E' j = E j) ∧ E' (M : Int) = e ∧ (M : Int) = (stP d i).m ∧ (rowP (stP d i).r (stP d i).m d[i]!).2 = true) := ⟨hE, hEm, hM, h1⟩
              have ec : (wc.alloc (.cells #[vP e] 100)).cell? ⟨wc.heap.size, 0, none⟩ = some (vP e) := cell_of_row _ _ 0 _ _ _ (heap_alloc_new wc _)
              have HC : Aside _ := ec
              have HW : Aside _ := hws
              obtain ⟨i0, hi0, hz0, hz1, hz2⟩ := info_parts (show (Try.prog.info? 100).map (fun i => (i.zero, i.size, i.bytes)) = some (some (.pointer none), 1, 8) by kernel_rfl)
              clear HB hE hEm hl hp hM h1 hst hb ec hws
              go_wp2_with (at_builtin; refine wpList_append_own _ rfl _ _ 99 rfl w.heap.size 100 i0 (.pointer none) 1 8 Try.underlying99 hi0 hz0 hz1 hz2 rfl (by decide) _ _ _ rfl HPX.out.made ⟨wc.heap.size, 0, none⟩ 1 1 [vP e] rfl ?qc1 ?qc2 ?qc3 ?qc4 ?qc5 ?qc6 ?_)
              case qc1 => rfl
              case qc2 =>
                intro j u hj
                cases j with
                | zero => simp at hj; subst hj; rw [Addr.add_lit]; exact HC.out
                | succ j => simp at hj
              case qc3 => intro u hu; simp at hu; subst hu; rfl
              case qc4 => have := hMM.out; unfold maxLen; omega
              case qc5 => have := hMM.out; omega
              case qc6 => exact HW.out
              intro v' w' ho hg _
              obtain ⟨gv, cv, rfl⟩ : ∃ gv cv, v' = .slice (some ⟨gv, 0, none⟩) (M + 1) cv := by
                rcases ho.2 with ⟨_, h0⟩ | ⟨g, c, _, h, _⟩
                · omega
                · exact ⟨g, c, h⟩
              have hbx := HPX.out.boxM.fr (fr_own HPX.out.made hg) (by decide)
              have bc := hbx.cell
              have bf := hbx.frozen 0
              obtain ⟨hE, hEm, hM, h1⟩ := HE.out
              have hpush := HPX.out.push hE hEm ho hg
              have hRI : Aside (RI d w L bm w.heap.size (stP d (i + 1)) i u2 (w'.setCell ⟨bm, 0, none⟩ (.slice (some ⟨gv, 0, none⟩) (M + 1) cv))) := by
                have hst : stP d (i + 1) = stepP (stP d i) d[i]! := rfl
                have e1 : (stP d (i + 1)).m = (stP d i).m + 1 := by rw [hst]; simp only [stepP, madeP, h1]; rfl
                have e2 : (stP d (i + 1)).r = (rowP (stP d i).r (stP d i).m d[i]!).1 := rfl
                refine ⟨E', M + 1, _, vs, by rw [e1, ← hM]; rfl, ?_, hpush.1⟩
                have hl2 := hpush.2 HLX.out
                rw [e1, e2]
                exact hl2
              clear hpush HE hE hEm hM h1 hbx ho hg HC HW HPX HLX hMM bmc bmf
              go_wp2_with fail
              go_meet
              case rel => exact hRI
            · obtain rfl : B = false := by rw [HB.out, h1]
              have hRI : Aside (RI d w L bm w.heap.size (stP d (i + 1)) i u2 wc) := by
                refine ⟨E, M, vm, vs, ?_, ?_, hp⟩
                · rw [hM, hst]; simp only [stepP, madeP, h1]; rfl
                · have e1 : (stP d (i + 1)).m = (stP d i).m := by rw [hst]; simp only [stepP, madeP, h1]; rfl
                  have e2 : (stP d (i + 1)).r = (rowP (stP d i).r (stP d i).m d[i]!).1 := rfl
                  rw [e1, e2]; exact hl
              clear HB hM hp hl hst h1
              go_wp2_with fail
              go_meet
              case rel => exact hRI
          case rest =>
            have HI : Aside _ := hcut
            clear hcut HX bmc bmf HB
            obtain ⟨E, M, vm, vs, hM, hl, hp⟩ := HI.out
            obtain ⟨r, hr⟩ : ∃ r, r = (stP d (i + 1)).r := ⟨_, rfl⟩
            have hlen : Aside (r.length ≤ 401) := by have := stP_bounds d (i + 1); show r.length ≤ 401; rw [hr]; omega
            rw [← hr] at hl
            have HLc : Aside (Lst vI LT w.heap.size wc L E (stP d (i + 1)).m (stP d (i + 1)).f r) := hl
            have HR : Aside (r = (stP d (i + 1)).r) := hr
            have hX : Below wc.heap.size wc (wc.alloc (.cells #[] 3)) := (Below.refl _ wc).alloc (Nat.le_refl _) _
            have HX : Aside (Below wc.heap.size wc (wc.alloc (.cells #[] 3))) := hX
            have CF := hide (front_row (hl.fr (fr_below (S := fun _ => False) (n1 := 0) hX) (fun _ _ h => h)))
            have HO : Aside ((wc.alloc (.cells #[] 3)).ownsRow wc.heap.size 3 1 (.slice (some ⟨wc.heap.size, 0, none⟩) 0 0) 0 []) := World.ownsRow_made wc #[] 0 (Nat.le_refl _) (by unfold maxLen; omega) rfl
            clear hX hM hl hp hr
            go_wp2_with fail
            refine CF.out.mono ?_
            rintro ev wz ⟨rfl, hwz⟩
            subst hwz
            clear CF
            go_upto_block 3 with fail
            go_cut [10, 11] from 160 to 171 (fun v10 v11 wx => Aside (Below wc.heap.size wc wx ∧ wx.ownsRow wc.heap.size 3 1 v10 r.length (r.map (Value.int .i64))))
            case first => as_aux_lemma =>
              go_wp2_with fail
              go_loopg [10, 11] r.length (fun g v10 v11 wr => ∃ k : Nat, k ≤ r.length ∧ r.length - k ≤ g ∧ v11 = ptrAt E r k ∧ Aside (Below wc.heap.size wc wr ∧ wr.ownsRow wc.heap.size 3 1 v10 k ((r.take k).map (Value.int .i64))))
              case atStart => exact ⟨0, by omega, by omega, rfl, HX.out, HO.out⟩
              case round =>
                clear HX HO
                obtain ⟨k, hk, hgk, rfl, HK⟩ := hrel
                cases hc : r[k]? with
                | none =>
                  rw [ptrAt_none hc]
                  have hke : r.length = k := by have := List.getElem?_eq_none_iff.1 hc; omega
                  have HD : Aside (Below wc.heap.size wc wr ∧ wr.ownsRow wc.heap.size 3 1 u10 r.length (r.map (Value.int .i64))) := by
                    have h2 := HK.out
                    rw [← hke, List.take_length] at h2
                    exact h2
                  have q := neN_nil wr
                  clear HK hke hc hk hgk
                  go_wp2_with fail
                  go_meet
                  case rel => exact HD
                | some j =>
                  rw [ptrAt_some hc]
                  have hlt : k < r.length := (List.getElem?_eq_some_iff.1 hc).1
                  have hlk : Lst vI LT w.heap.size wr L E (stP d (i + 1)).m (stP d (i + 1)).f r := HLc.out.fr (fr_below (S := fun _ => False) (n1 := 0) HK.out.1) (fun _ _ h => h)
                  have hjr := hlk.inR (List.mem_of_getElem? hc)
                  have hv : wr.cell? ⟨E j, 3, none⟩ = some (.iface 3 (.int .i64 j)) := hlk.val j hjr.1 hjr.2
                  have q := neE_nil wr (E j)
                  have ta := assertI (.int .i64 j) wr
                  have HJ : Aside (r[k]? = some j ∧ k < r.length ∧ r.length - k ≤ gk) := ⟨hc, hlt, hgk⟩
                  have hb1 : Below wr.heap.size wr (wr.alloc (.cells #[.int .i64 j] 3)) := (Below.refl _ wr).alloc (Nat.le_refl _) _
                  have HB1 : Aside (Below wr.heap.size wr (wr.alloc (.cells #[.int .i64 j] 3))) := hb1
                  have HOX : Aside ((wr.alloc (.cells #[.int .i64 j] 3)).ownsRow wc.heap.size 3 1 u10 k ((r.take k).map (Value.int .i64))) := own_below HK.out.2 hb1
                  have HC : Aside ((wr.alloc (.cells #[.int .i64 j] 3)).cell? ⟨wr.heap.size, 0, none⟩ = some (.int .i64 j)) := cell_of_row _ _ 0 _ _ _ (heap_alloc_new wr _)
                  have HW : Aside (wc.heap.size ≤ (wr.alloc (.cells #[.int .i64 j] 3)).heap.size) := Nat.le_trans HK.out.1.size hb1.size
                  obtain ⟨i0, hi0, hz0, hz1, hz2⟩ := info_parts (show (Try.prog.info? 3).map (fun i => (i.zero, i.size, i.bytes)) = some (some (.int .i64 0), 1, 8) by kernel_rfl)
                  clear hc hlt hlk hjr hgk hk hb1
                  go_wp2_with (at_builtin; refine wpList_append_own _ rfl _ _ 59 rfl wc.heap.size 3 i0 (.int .i64 0) 1 8 Try.underlying59 hi0 hz0 hz1 hz2 rfl (by decide) _ _ _ rfl HOX.out ⟨wr.heap.size, 0, none⟩ 1 1 [.int .i64 j] rfl ?qc1 ?qc2 ?qc3 ?qc4 ?qc5 ?qc6 ?_)
                  case qc1 => rfl
                  case qc2 =>
                    intro j' u hj
                    cases j' with
                    | zero => simp at hj; subst hj; rw [Addr.add_lit]; exact HC.out
                    | succ j' => simp at hj
                  case qc3 => intro u hu; simp at hu; subst hu; rfl
                  case qc4 => have := hlen.out; have := HJ.out.2.1; unfold maxLen; omega
                  case qc5 => have := hlen.out; have := HJ.out.2.1; omega
                  case qc6 => exact HW.out
                  intro v' w' ho hg _
                  have hBw : Below wc.heap.size wc w' := (HK.out.1.trans (HB1.out.mono HK.out.1.size)).grown hg HW.out (fun b hb => (HOX.out.lt b hb).1)
                  have CN := hide (next_row (HLc.out.fr (fr_below (S := fun _ => False) (n1 := 0) hBw) (fun _ _ h => h)) HJ.out.1)
                  have HN : Aside (Below wc.heap.size wc w' ∧ w'.ownsRow wc.heap.size 3 1 v' (k + 1) ((r.take (k + 1)).map (Value.int .i64))) := by
                    refine ⟨hBw, ?_⟩
                    rw [List.take_add_one, HJ.out.1, List.map_append, List.map_take]
                    exact ho
                  clear HK HB1 HOX HC HW ho hg hBw hv q ta
                  go_wp2_with fail
                  refine CN.out.mono ?_
                  rintro ev wz ⟨rfl, hwz⟩
                  subst hwz
                  clear CN
                  go_wp2_with fail
                  go_roundg (r.length - (k + 1))
                  case measure => have := HJ.out; omega
                  case rel => exact ⟨k + 1, by have := HJ.out; omega, Nat.le_refl _, rfl, HN⟩
            case rest =>
              obtain ⟨hb3, ho3⟩ := hcut
              have hRI : RI d w L bm w.heap.size (stP d (i + 1)) i u2 wc := HI.out.below hb3
              have hRow : RowI 3 wc u10 (stP d (i + 1)).r := by
                have := (rowI_own ho3).1
                rwa [HR.out] at this
              obtain ⟨a10, c10, h10⟩ := hRow.form
              obtain ⟨n10, hn10⟩ : ∃ k, k = (stP d (i + 1)).r.length := ⟨_, rfl⟩
              rw [← hn10] at h10
              subst h10
              clear hb3 ho3 HI HLc HR hlen hn10
              have hb4 : Below wc.heap.size wc (wc.alloc (.cells #[.slice a10 n10 c10] 59)) := (Below.refl _ wc).alloc (Nat.le_refl _) _
              have HRI : Aside (RI d w L bm w.heap.size (stP d (i + 1)) i u2 (wc.alloc (.cells #[.slice a10 n10 c10] 59))) := hRI.below hb4
              have HRow : Aside (RowI 3 (wc.alloc (.cells #[.slice a10 n10 c10] 59)) (.slice a10 n10 c10) (stP d (i + 1)).r) := hRow.below hb4
              have HC : Aside ((wc.alloc (.cells #[.slice a10 n10 c10] 59)).cell? ⟨wc.heap.size, 0, none⟩ = some (.slice a10 n10 c10)) := cell_of_row _ _ 0 _ _ _ (heap_alloc_new wc _)
              have HN : Aside (i ≤ 400) := by show i ≤ 400; omega
              have HW : Aside (w.heap.size ≤ (wc.alloc (.cells #[.slice a10 n10 c10] 59)).heap.size) := by
                obtain ⟨_, _, _, _, _, _, hp⟩ := HRI.out
                exact hp.bel.size
              have HO : Aside (∃ vs, (wc.alloc (.cells #[.slice a10 n10 c10] 59)).ownsRow w.heap.size 59 1 u2 i vs) := by
                obtain ⟨_, _, _, vs, _, _, hp⟩ := HRI.out
                exact ⟨vs, hp.out⟩
              obtain ⟨vs, hvs⟩ := HO.out
              have HVS : Aside _ := hvs
              have HI1 : Aside (((i : Nat) : Int) + 1 ≤ 401) := by show (i : Int) + 1 ≤ 401; have := HN.out; omega
              obtain ⟨i0, hi0, hz0, hz1, hz2⟩ := info_parts (show (Try.prog.info? 59).map (fun i => (i.zero, i.size, i.bytes)) = some (some (.slice none 0 0), 1, 24) by kernel_rfl)
              clear hRI hRow hb4 HO hvs
              go_wp2_with (at_builtin; refine wpList_append_own _ rfl _ _ 55 rfl w.heap.size 59 i0 (.slice none 0 0) 1 24 Try.underlying55 hi0 hz0 hz1 hz2 rfl (by decide) _ _ _ rfl HVS.out ⟨wc.heap.size, 0, none⟩ 1 1 [.slice a10 n10 c10] rfl ?qc1 ?qc2 ?qc3 ?qc4 ?qc5 ?qc6 ?_)
              case qc1 => rfl
              case qc2 =>
                intro j' u hj
                cases j' with
                | zero => simp at hj; subst hj; rw [Addr.add_lit]; exact HC.out
                | succ j' => simp at hj
              case qc3 => intro u hu; simp at hu; subst hu; rfl
              case qc4 => have := HN.out; unfold maxLen; omega
              case qc5 => have := HN.out; omega
              case qc6 => exact HW.out
              intro v2' w' ho hg _
              have HD : Aside (RI d w L bm w.heap.size (stP d (i + 1)) (i + 1) v2' w') := by
                refine HRI.out.row HRow.out (fun vs' hvs' => ?_) hg
                have hw : w'.ownsRow w.heap.size 59 1 v2' (i + 1) (vs ++ [.slice a10 n10 c10]) := ho
                have e : vs' = vs := own_same hvs' HVS.out
                rw [e]; exact hw
              clear HRI HRow HC HW HVS ho hg
              go_wp2_with fail
              go_roundg (n - (i + 1))
              case measure => omega
              case rel => exact ⟨i + 1, by go_num, by omega, Nat.le_refl _, HD⟩
    · obtain rfl : i = n := by omega
      have hltz : ¬ (i : Int) < (i : Int) := by omega
      obtain ⟨E, M, vm, vs, _, hl, hp⟩ := HR.out
      have ok1 := hp.boxO.cell
      have fk1 := hp.boxO.frozen 0
      obtain ⟨W3, e3⟩ : ∃ W, W = wr.setCell ⟨w.heap.size, 0, none⟩ (.bool true) := ⟨_, rfl⟩
      have F3 := hp.boxO.setFr (.bool true)
      have q3 : W3.cell? ⟨w.heap.size, 0, none⟩ = some (.bool true) := by rw [e3]; exact World.cell?_setCell_same _ _ _ ok1
      rw [← e3] at F3
      have K3 : Aside (W3.ownsRow w.heap.size 59 1 u2 i vs ∧ RowsI W3 vs (rowsP d i) ∧ Below w.heap.size w W3) := ⟨own_fr hp.out F3 (by decide), hp.rows.fr F3 (by decide), Below.fr hp.bel F3⟩
      have E3 : Aside _ := e3
      clear hp hl F3 HR e3 hg
      go_wp2_with fail
      rw [← E3.out]
      clear E3
      refine leaves_cons (f := 33) (args := #[.pointer (some ⟨w.heap.size, 0, none⟩)]) (by simp) (by simp [go_sem]) ?_
      refine (guardedR_idle _ _).mono ?_
      rintro e u' w'' ⟨rfl, rfl, rfl⟩
      simp [Leaves, settle, results, Try.results29, go_sem, q3]
      exact ⟨_, vs, rfl, K3.out⟩
end Go.Proofs.Ytglgmkikegbchaa
