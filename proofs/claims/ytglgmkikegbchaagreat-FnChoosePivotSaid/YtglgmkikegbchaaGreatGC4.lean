/- Texts of this claim, laid together: zMiddle, zChosen2, zChosen4. -/
import Derived.Test.YtglgmkikegbchaaGreatSOrd
import Derived.Test.YtglgmkikegbchaaGreatzNums
import Derived.Test.YtglgmkikegbchaaGreatzDoes
import Derived.Deep.CutRange
import Derived.Test.YtglgmkikegbchaaGreatQw
import Derived.Test.YtglgmkikegbchaaGreatMu
import Derived.Test.YtglgmkikegbchaaGreatPf
import Derived.Test.YtglgmkikegbchaaGreatzKept
/- spec.middle: of one of three places whose element has at most one of the others ahead of it, and at most one behind. -/
namespace Go.Proofs.YtglgmkikegbchaaGreat
open Go.RowKit Go.Sort

theorem one_calls (b : Bool) (w : World) : Calls Tryz.prog 116 #[.bool b] w fun e w' => e = .returned (.int .i64 (flagN b)) ∧ w' = w := by
  cases b
  · go_enter Tryz.func116, Tryz.ntmps116
    go_wp2
    go_ret
    exact ⟨rfl, rfl⟩
  · go_enter Tryz.func116, Tryz.ntmps116
    go_wp2
    go_ret
    exact ⟨rfl, rfl⟩

theorem cell_drawn {w : World} {a : Addr} {v : Value} (h : w.cell? a = some v) (q : Nat) : (w.drewN q).cell? a = some v := (World.cell?_drewN w q a).trans h
/-- How many of the first of some places have an element that p holds of. -/
def countC (p : Nat → Bool) : Nat → Int
  | 0 => 0
  | i + 1 => countC p i + flagN (p i)
theorem flagN_range (b : Bool) : 0 ≤ flagN b ∧ flagN b ≤ 1 := by cases b <;> simp [flagN]
theorem countC_range (p : Nat → Bool) : ∀ i, 0 ≤ countC p i ∧ countC p i ≤ i
  | 0 => by simp [countC]
  | i + 1 => by have h1 := countC_range p i; have h2 := flagN_range (p i); simp only [countC]; omega

set_option maxHeartbeats 8000000 in
set_option maxRecDepth 1000000 in
theorem middle_calls (a : Option Addr) (nb noff rb roff cap n ncap rcap : Nat) (d : Array It) (o : Ordr) (T : Nat → Nat) (m s : Nat) (w : World) (h : Rd2 w a d) (hn : d.size = n) (hsz : n ≤ 2000) (hs0 : 0 ≤ o.shift) (hs1 : o.shift < 64)
    (hnb : nb < w.heap.size) (hT : ∀ i, i < 3 → T i < n ∧ w.cell? ⟨nb, noff + i, none⟩ = some (.int .i64 (T i))) (hrb : rb < w.heap.size) (hr0 : w.cell? ⟨rb, roff, none⟩ = some (.int .i64 m)) (hr1 : w.cell? ⟨rb, roff + 1, none⟩ = some (.int .i64 s))
    (hm : m = T 0 ∨ m = T 1 ∨ m = T 2) (hs3 : s ≤ 3) (hA : countC (fun i => ltC (cfO o) d[T i]! d[m]!) 3 ≤ 1) (hB : countC (fun i => ltC (cfO o) d[m]! d[T i]!) 3 ≤ 1) :
    Calls Tryz.prog 118 #[.slice a n cap, vOrd o, .slice (some ⟨nb, noff, none⟩) 3 ncap, .slice (some ⟨rb, roff, none⟩) 2 rcap] w fun e w' => e = .returned (.bool true) ∧ Below w.heap.size w w' := by
  have LC0 := fun x y W => sless_calls o hs0 hs1 x y W
  generalize ltC (cfO o) = lt at LC0 hA hB
  have LC : Aside _ := LC0
  clear LC0
  clear hs0 hs1
  obtain ⟨k, sh, m0, m1, m2⟩ := o
  obtain ⟨W, hW⟩ : ∃ W, W = w.alloc (.cells #[.int .i64 k, .int .i64 sh, .int .u64 m0, .int .u64 m1, .int .u64 m2] 26) := ⟨_, rfl⟩
  have B0 : Below w.heap.size w W := by rw [hW]; exact below_alloc _ _
  have K0 : Aside (BoxK W w.heap.size k sh m0 m1 m2) := by show BoxK _ _ _ _ _ _ _; rw [hW]; exact boxK_new _ _ _ _ _ _ _
  have hmn : m < n := by
    rcases hm with rfl | rfl | rfl
    · exact (hT 0 (by omega)).1
    · exact (hT 1 (by omega)).1
    · exact (hT 2 (by omega)).1
  obtain ⟨blk, off, rfl, hbl, hc⟩ := h (by omega)
  obtain ⟨x, hx⟩ : ∃ x, x = T 0 := ⟨_, rfl⟩
  obtain ⟨y, hy⟩ : ∃ y, y = T 1 := ⟨_, rfl⟩
  obtain ⟨z, hz⟩ : ∃ z, z = T 2 := ⟨_, rfl⟩
  have t0 := cell_drawn ((B0.cell (p := ⟨nb, noff + 0, none⟩) hnb).trans (hT 0 (by omega)).2)
  have t1 := cell_drawn ((B0.cell (p := ⟨nb, noff + 1, none⟩) hnb).trans (hT 1 (by omega)).2)
  have t2 := cell_drawn ((B0.cell (p := ⟨nb, noff + 2, none⟩) hnb).trans (hT 2 (by omega)).2)
  rw [← hx] at t0
  rw [← hy] at t1
  rw [← hz] at t2
  rw [Nat.add_zero] at t0
  have r0 := cell_drawn ((B0.cell (p := ⟨rb, roff, none⟩) hrb).trans hr0)
  have r1 := cell_drawn ((B0.cell (p := ⟨rb, roff + 1, none⟩) hrb).trans hr1)
  have HT : Aside (∀ i, i < 3 → T i < n ∧ W.cell? ⟨nb, noff + i, none⟩ = some (.int .i64 (T i))) := fun i hi => ⟨(hT i hi).1, (B0.cell (p := ⟨nb, noff + i, none⟩) hnb).trans (hT i hi).2⟩
  have HR0 : Aside (W.cell? ⟨rb, roff, none⟩ = some (.int .i64 m)) := (B0.cell (p := ⟨rb, roff, none⟩) hrb).trans hr0
  have HD : Aside (d.size = n ∧ ∀ i, i < d.size → W.cell? ⟨blk, off + i * 2, none⟩ = some (.int .i64 d[i]!.1) ∧ W.cell? ⟨blk, off + i * 2 + 1, none⟩ = some (.int .i64 d[i]!.2)) :=
    ⟨hn, fun i hi => ⟨(B0.cell (p := ⟨blk, off + i * 2, none⟩) hbl).trans (hc i hi).1, (B0.cell (p := ⟨blk, off + i * 2 + 1, none⟩) hbl).trans (hc i hi).2⟩⟩
  have HB : Aside (Below w.heap.size w W) := B0
  have HAB : Aside (countC (fun i => lt d[T i]! d[m]!) 3 ≤ 1 ∧ countC (fun i => lt d[m]! d[T i]!) 3 ≤ 1) := ⟨hA, hB⟩
  have mixed : Tryz.prog.follows .mixedOrders = true := by kernel_rfl
  have s3z : ¬ (3 : Int) < (s : Int) := by omega
  have hcase : (m = x) ∨ (m ≠ x ∧ m = y) ∨ (m ≠ x ∧ m ≠ y ∧ m = z) := by omega
  have HW : Aside _ := hW
  clear hm hx hy hz hT hr0 hr1 hA hB hnb hrb hbl hc B0 h hn
  go_enter Tryz.func118, Tryz.ntmps118
  go_upto_region 1 with fail
  rw [← hW]
  clear hW
  go_cut [54] from 13 to 54 (fun s54 wx => s54 = .bool false ∧ Aside (Below W.heap.size W wx))
  case first =>
    rcases hcase with hm | ⟨hm1, hm2⟩ | ⟨hm1, hm2, hm3⟩
    · subst hm
      refine region_drew (by assumption) (by kernel_rfl) ?_
      repeat' (refine Qw.step (fun K hK => ?_); go_simp; refine hK _ ?_; clear hK K)
      refine Qw.nil ?_
      intro _ hw'
      obtain ⟨nq, hw''⟩ := hw'
      subst hw''
      go_wp2_with fail
      go_meet
      case rel => exact ⟨rfl, below_drewN (Below.refl _ _) _⟩
    · have hm1z : ¬ (m : Int) = (x : Int) := by omega
      subst hm2
      refine region_drew (by assumption) (by kernel_rfl) ?_
      repeat' (refine Qw.step (fun K hK => ?_); go_simp; refine hK _ ?_; clear hK K)
      refine Qw.nil ?_
      intro _ hw'
      obtain ⟨nq, hw''⟩ := hw'
      subst hw''
      go_wp2_with fail
      go_meet
      case rel => exact ⟨rfl, below_drewN (Below.refl _ _) _⟩
    · have hm1z : ¬ (m : Int) = (x : Int) := by omega
      have hm2z : ¬ (m : Int) = (y : Int) := by omega
      subst hm3
      refine region_drew (by assumption) (by kernel_rfl) ?_
      repeat' (refine Qw.step (fun K hK => ?_); go_simp; refine hK _ ?_; clear hK K)
      refine Qw.nil ?_
      intro _ hw'
      obtain ⟨nq, hw''⟩ := hw'
      subst hw''
      go_wp2_with fail
      go_meet
      case rel => exact ⟨rfl, below_drewN (Below.refl _ _) _⟩
  case rest =>
    obtain ⟨rfl, Bc⟩ := hcut
    clear t0 t1 t2 r0 r1 hcase s3z hs3
    go_wp2_with fail
    go_loopg [9, 10, 57] 3 (fun g v9 v10 vi wr => ∃ i : Nat, v9 = .int .i64 (countC (fun i => lt d[T i]! d[m]!) i) ∧ v10 = .int .i64 (countC (fun i => lt d[m]! d[T i]!) i) ∧ vi = .int .i64 i ∧ i ≤ 3 ∧ 3 - i ≤ g ∧ Aside (Below W.heap.size W wr))
    case atStart => exact ⟨0, rfl, rfl, rfl, by omega, by omega, Bc⟩
    case round =>
      clear Bc
      obtain ⟨i, rfl, rfl, rfl, hi3, hg, Bk⟩ := hrel
      by_cases hlt : i < 3
      · have hltz : (i : Int) < 3 := by omega
        obtain ⟨hd, hc⟩ := HD.out
        obtain ⟨hTn, hTc⟩ := HT.out i hlt
        obtain ⟨j, hj⟩ : ∃ j, j = T i := ⟨_, rfl⟩
        rw [← hj] at hTn hTc
        have tc : wr.cell? ⟨nb, noff + i, none⟩ = some (.int .i64 j) := (Bk.out.cell (block_lt_of_cell hTc)).trans hTc
        obtain ⟨⟨x1, x2⟩, hxv⟩ : ∃ v : It, v = d[j]! := ⟨_, rfl⟩
        obtain ⟨⟨y1, y2⟩, hyv⟩ : ∃ v : It, v = d[m]! := ⟨_, rfl⟩
        obtain ⟨e1, e2⟩ := hc j (by omega)
        obtain ⟨e3, e4⟩ := hc m (by omega)
        rw [← hxv] at e1 e2
        rw [← hyv] at e3 e4
        obtain ⟨A, hA⟩ : ∃ A, A = countC (fun i => lt d[T i]! d[m]!) i := ⟨_, rfl⟩
        obtain ⟨B, hB⟩ : ∃ B, B = countC (fun i => lt d[m]! d[T i]!) i := ⟨_, rfl⟩
        obtain ⟨c1, hc1⟩ : ∃ c, c = lt (x1, x2) (y1, y2) := ⟨_, rfl⟩
        obtain ⟨c2, hc2⟩ : ∃ c, c = lt (y1, y2) (x1, x2) := ⟨_, rfl⟩
        obtain ⟨f1, hf1⟩ : ∃ f, f = flagN c1 := ⟨_, rfl⟩
        obtain ⟨f2, hf2⟩ : ∃ f, f = flagN c2 := ⟨_, rfl⟩
        have rA := countC_range (fun i => lt d[T i]! d[m]!) i
        have rB := countC_range (fun i => lt d[m]! d[T i]!) i
        rw [← hA] at rA
        rw [← hB] at rB
        have rf1 := flagN_range c1
        have rf2 := flagN_range c2
        rw [← hf1] at rf1
        rw [← hf2] at rf2
        have HA : Aside (countC (fun i => lt d[T i]! d[m]!) (i + 1) = A + f1) := by show countC _ i + flagN (lt d[T i]! d[m]!) = _; rw [← hA, ← hj, ← hxv, ← hyv, ← hc1, ← hf1]
        have HB2 : Aside (countC (fun i => lt d[m]! d[T i]!) (i + 1) = B + f2) := by show countC _ i + flagN (lt d[m]! d[T i]!) = _; rw [← hB, ← hj, ← hxv, ← hyv, ← hc2, ← hf2]
        rw [← hA, ← hB]
        have hl1 : ∀ (V : World) (p : Regrown), Calls Tryz.prog 47 #[.agg #[.int .i64 k, .int .i64 sh, .int .u64 m0, .int .u64 m1, .int .u64 m2], .agg #[.int .i64 x1, .int .i64 x2], .agg #[.int .i64 y1, .int .i64 y2]] (grow (redrawn V p.d) p.os) fun e w'' => e = .returned (.bool c1) ∧ ∃ p : Regrown, w'' = grow (redrawn V p.d) p.os := fun V p => by
          rw [hc1]; exact Calls.regrown_of (LC.out (x1, x2) (y1, y2) _)
        have hl2 : ∀ (V : World) (p : Regrown), Calls Tryz.prog 47 #[.agg #[.int .i64 k, .int .i64 sh, .int .u64 m0, .int .u64 m1, .int .u64 m2], .agg #[.int .i64 y1, .int .i64 y2], .agg #[.int .i64 x1, .int .i64 x2]] (grow (redrawn V p.d) p.os) fun e w'' => e = .returned (.bool c2) ∧ ∃ p : Regrown, w'' = grow (redrawn V p.d) p.os := fun V p => by
          rw [hc2]; exact Calls.regrown_of (LC.out (y1, y2) (x1, x2) _)
        have ho1 : ∀ (V : World) (p : Regrown), Calls Tryz.prog 116 #[.bool c1] (grow (redrawn V p.d) p.os) fun e w'' => e = .returned (.int .i64 f1) ∧ ∃ p : Regrown, w'' = grow (redrawn V p.d) p.os := fun V p => by
          rw [hf1]; exact (one_calls c1 _).mono fun e w' ⟨h1, h2⟩ => ⟨h1, p, h2⟩
        have ho2 : ∀ (V : World) (p : Regrown), Calls Tryz.prog 116 #[.bool c2] (grow (redrawn V p.d) p.os) fun e w'' => e = .returned (.int .i64 f2) ∧ ∃ p : Regrown, w'' = grow (redrawn V p.d) p.os := fun V p => by
          rw [hf2]; exact (one_calls c2 _).mono fun e w' ⟨h1, h2⟩ => ⟨h1, p, h2⟩
        have s1 : IntKind.i64.wrap (A + f1) = A + f1 := by rw [IntKind.wrap_i64]; omega
        have s2 : IntKind.i64.wrap (B + f2) = B + f2 := by rw [IntKind.wrap_i64]; omega
        have jz : (j : Int) < (n : Int) := by omega
        have mz : (m : Int) < (n : Int) := by omega
        have wj : IntKind.i64.wrap (j : Int) = (j : Int) := by rw [IntKind.wrap_i64]; omega
        have wm : IntKind.i64.wrap (m : Int) = (m : Int) := by rw [IntKind.wrap_i64]; omega
        have HE : Aside (W.cell? ⟨blk, off + j * 2, none⟩ = some (.int .i64 x1) ∧ W.cell? ⟨blk, off + j * 2 + 1, none⟩ = some (.int .i64 x2) ∧ W.cell? ⟨blk, off + m * 2, none⟩ = some (.int .i64 y1) ∧ W.cell? ⟨blk, off + m * 2 + 1, none⟩ = some (.int .i64 y2)) := ⟨e1, e2, e3, e4⟩
        have keep : ∀ (V : World), Below W.heap.size W V → ∀ q v, W.cell? q = some v → ∀ dd os, (grow (redrawn V dd) os).cell? q = some v := fun V hV q v hq => cell_regrown ((hV.cell (block_lt_of_cell hq)).trans hq)
        have KP : Aside _ := keep
        clear hc hTc hTn hj hxv hyv e1 e2 e3 e4 hA hB hc1 hc2 hf1 hf2 keep hd
        go_upto_region 7 with fail
        clear tc
        obtain ⟨_, k0, k1, k2, k3, k4⟩ := K0.out
        have p0 := KP.out wr Bk.out _ _ k0
        have p1 := KP.out wr Bk.out _ _ k1
        have p2 := KP.out wr Bk.out _ _ k2
        have p3 := KP.out wr Bk.out _ _ k3
        have p4 := KP.out wr Bk.out _ _ k4
        have q0 := KP.out wr Bk.out _ _ HR0.out
        have q1 := KP.out wr Bk.out _ _ HE.out.1
        have q2 := KP.out wr Bk.out _ _ HE.out.2.1
        have q3 := KP.out wr Bk.out _ _ HE.out.2.2.1
        have q4 := KP.out wr Bk.out _ _ HE.out.2.2.2
        clear k0 k1 k2 k3 k4
        refine wp_region_quiet_below (by assumption) (by kernel_rfl) ?_
        repeat' (quiet_step (first | with_reducible exact hl1 _ _ | with_reducible exact ho1 _ _))
        all_goals
          refine wpQuiet_nil ?_
          intro _ hw'
          obtain ⟨⟨nq, osq⟩, hw''⟩ := hw'
          subst hw''
        have B1 : Aside (Below W.heap.size W (grow (redrawn wr nq) osq)) := Below.next Bk.out (below_regrown wr nq osq)
        clear p0 p1 p2 p3 p4 q0 q1 q2 q3 q4 Bk
        generalize grow (redrawn wr nq) osq = V at B1 ⊢
        go_upto_region 8 with fail
        obtain ⟨_, k0, k1, k2, k3, k4⟩ := K0.out
        have p0 := KP.out V B1.out _ _ k0
        have p1 := KP.out V B1.out _ _ k1
        have p2 := KP.out V B1.out _ _ k2
        have p3 := KP.out V B1.out _ _ k3
        have p4 := KP.out V B1.out _ _ k4
        have q0 := KP.out V B1.out _ _ HR0.out
        have q1 := KP.out V B1.out _ _ HE.out.1
        have q2 := KP.out V B1.out _ _ HE.out.2.1
        have q3 := KP.out V B1.out _ _ HE.out.2.2.1
        have q4 := KP.out V B1.out _ _ HE.out.2.2.2
        clear k0 k1 k2 k3 k4
        refine wp_region_quiet_below (by assumption) (by kernel_rfl) ?_
        repeat' (quiet_step (first | with_reducible exact hl2 _ _ | with_reducible exact ho2 _ _))
        all_goals
          refine wpQuiet_nil ?_
          intro _ hw'
          obtain ⟨⟨mq, psq⟩, hw''⟩ := hw'
          subst hw''
        have B2 : Aside (Below W.heap.size W (grow (redrawn V mq) psq)) := Below.next B1.out (below_regrown V mq psq)
        clear p0 p1 p2 p3 p4 q0 q1 q2 q3 q4 B1 hl1 hl2 ho1 ho2 KP
        go_wp2_with fail
        go_roundg (3 - (i + 1))
        case measure => omega
        case rel => exact ⟨i + 1, by rw [HA.out], by rw [HB2.out], by go_num, by omega, by omega, B2⟩
      · have hltz : ¬ (i : Int) < 3 := by omega
        obtain rfl : i = 3 := by omega
        obtain ⟨z1, z2⟩ := HAB.out
        go_wp2_with fail
        go_ret
        exact ⟨rfl, Below.next HB.out Bk.out⟩
end Go.Proofs.YtglgmkikegbchaaGreat

/- spec.chosen of median. -/
namespace Go.Proofs.YtglgmkikegbchaaGreat
open Go.RowKit Go.Sort

theorem flagN_decide (p : Prop) [Decidable p] : flagN (decide p) = if p then 1 else 0 := by
  unfold flagN
  by_cases h : p <;> simp [h]
/-- The median, counted. -/
theorem median_counts {μ : It → Int} (d : Array It) (x y z : Nat) : ∃ m s, median (ltBy μ) d x y z 0 = (m, s) ∧ s ≤ 3 ∧ (m = at3 x y z 0 ∨ m = at3 x y z 1 ∨ m = at3 x y z 2) ∧
    countC (fun i => ltBy μ d[at3 x y z i]! d[m]!) 3 ≤ 1 ∧ countC (fun i => ltBy μ d[m]! d[at3 x y z i]!) 3 ≤ 1 := by
  obtain ⟨m, s, e, hs, h⟩ := median_by (μ := μ) d x y z
  refine ⟨m, s, e, hs, ?_, ?_, ?_⟩
  · rcases h with ⟨h, _⟩ | ⟨h, _⟩ | ⟨h, _⟩
    · exact Or.inl h
    · exact Or.inr (Or.inl h)
    · exact Or.inr (Or.inr h)
  · show 0 + flagN (decide (μ d[x]! < μ d[m]!)) + flagN (decide (μ d[y]! < μ d[m]!)) + flagN (decide (μ d[z]! < μ d[m]!)) ≤ 1
    rw [flagN_decide, flagN_decide, flagN_decide]
    rcases h with ⟨rfl, h⟩ | ⟨rfl, h⟩ | ⟨rfl, h⟩ <;> (split <;> split <;> split <;> omega)
  · show 0 + flagN (decide (μ d[m]! < μ d[x]!)) + flagN (decide (μ d[m]! < μ d[y]!)) + flagN (decide (μ d[m]! < μ d[z]!)) ≤ 1
    rw [flagN_decide, flagN_decide, flagN_decide]
    rcases h with ⟨rfl, h⟩ | ⟨rfl, h⟩ | ⟨rfl, h⟩ <;> (split <;> split <;> split <;> omega)

set_option maxHeartbeats 4000000 in
set_option maxRecDepth 1000000 in
theorem chosen_median (a na ra : Option Addr) (cap n ncap rcap : Nat) (d : Array It) (o : Ordr) (x y z : Nat) (w : World) (h : Rd2 w a d) (hn : d.size = n) (hsz : n ≤ 2000) (hs0 : 0 ≤ o.shift) (hs1 : o.shift < 64) (hk3 : o.kind ≠ 3) (hx : x < n) (hy : y < n) (hz : z < n)
    (hN : RdN w na #[(x : Int), (y : Int), (z : Int)]) (hR : RdN w ra #[((median (ltC (cfO o)) d x y z 0).1 : Int), ((median (ltC (cfO o)) d x y z 0).2 : Int)]) :
    Calls Tryz.prog 55 #[.int .i64 10, .slice a n cap, vOrd o, .slice na 3 ncap, .slice ra 2 rcap] w fun e w' => e = .returned (.bool true) ∧ Below w.heap.size w w' := by
  obtain ⟨m, s, e, hs, hm, hA, hB⟩ := median_counts (μ := muO o) d x y z
  rw [← ltC_by o hk3] at e hA hB
  rw [e] at hR
  dsimp only at hR
  obtain ⟨nb, noff, rfl, hnb, hnc⟩ := hN (by simp)
  obtain ⟨rb, roff, rfl, hrb, hrc⟩ := hR (by simp)
  obtain ⟨W, hW⟩ : ∃ W, W = w.alloc (.cells #[.int .i64 o.kind, .int .i64 o.shift, .int .u64 o.m0, .int .u64 o.m1, .int .u64 o.m2] 26) := ⟨_, rfl⟩
  have B0 : Below w.heap.size w W := by rw [hW]; exact below_alloc _ _
  have K0 : BoxK W w.heap.size o.kind o.shift o.m0 o.m1 o.m2 := by rw [hW]; exact boxK_new _ _ _ _ _ _ _
  have hC := middle_calls a nb noff rb roff cap n ncap rcap d o (at3 x y z) m s W (h.keep B0) hn hsz hs0 hs1 (Nat.lt_of_lt_of_le hnb B0.size) (fun i hi => by
    rcases (show i = 0 ∨ i = 1 ∨ i = 2 by omega) with rfl | rfl | rfl
    · exact ⟨hx, (B0.cell (p := ⟨nb, noff + 0, none⟩) hnb).trans (hnc 0 (by simp))⟩
    · exact ⟨hy, (B0.cell (p := ⟨nb, noff + 1, none⟩) hnb).trans (hnc 1 (by simp))⟩
    · exact ⟨hz, (B0.cell (p := ⟨nb, noff + 2, none⟩) hnb).trans (hnc 2 (by simp))⟩) (Nat.lt_of_lt_of_le hrb B0.size) ((B0.cell (p := ⟨rb, roff + 0, none⟩) hrb).trans (hrc 0 (by simp))) ((B0.cell (p := ⟨rb, roff + 1, none⟩) hrb).trans (hrc 1 (by simp))) hm hs hA hB
  have HB : Aside _ := B0
  clear e hs hm hA hB hN hR hnc hrc hnb hrb h hn hsz hs0 hs1 hk3 hx hy hz
  obtain ⟨k, sh, m0, m1, m2⟩ := o
  obtain ⟨_, k0, k1, k2, k3, k4⟩ := K0
  clear B0
  have HW : Aside _ := hW
  rw [hW] at k0 k1 k2 k3 k4 hC
  clear hW
  go_enter Tryz.func55, Tryz.ntmps55
  go_wp2_with fail
  refine hC.mono ?_
  rintro e w' ⟨rfl, hb⟩
  rw [← HW.out] at hb
  have B1 := Below.next HB.out hb
  clear hb hC
  go_wp2_with fail
  go_ret
  exact ⟨rfl, B1⟩
end Go.Proofs.YtglgmkikegbchaaGreat

/- spec.chosen of choosePivot. -/
namespace Go.Proofs.YtglgmkikegbchaaGreat
open Go.RowKit Go.Sort

theorem adj_all {μ : It → Int} {d : Array It} {x y : Nat} (hy : y ≤ d.size) (h : ascB (ltBy μ) (d.extract x y) = true) : ∀ i j, x ≤ i → i ≤ j → j < y → μ d[i]! ≤ μ d[j]! := by
  rw [ascB_true] at h
  have step : ∀ k, x ≤ k → k + 1 < y → μ d[k]! ≤ μ d[k + 1]! := fun k h1 h2 => by
    have := h (k - x) (by rw [Array.size_extract]; omega)
    rw [ext_get d x y (k - x + 1) hy (by omega), ext_get d x y (k - x) hy (by omega), show x + (k - x + 1) = k + 1 by omega, show x + (k - x) = k by omega] at this
    simpa [ltBy] using this
  intro i j h1 h2 h3
  obtain ⟨m, rfl⟩ : ∃ m, j = i + m := ⟨j - i, by omega⟩
  clear h2
  induction m with
  | zero => exact Int.le_refl _
  | succ m ih => exact Int.le_trans (ih (by omega)) (step (i + m) (by omega) (by omega))
theorem fall_all {μ : It → Int} {d : Array It} {x y : Nat} (hy : y ≤ d.size) (h : fallsB (ltBy μ) (d.extract x y) = true) : ∀ i j, x ≤ i → i < j → j < y → μ d[j]! < μ d[i]! := by
  rw [fallsB_true] at h
  have step : ∀ k, x ≤ k → k + 1 < y → μ d[k + 1]! < μ d[k]! := fun k h1 h2 => by
    have := h (k - x) (by rw [Array.size_extract]; omega)
    rw [ext_get d x y (k - x + 1) hy (by omega), ext_get d x y (k - x) hy (by omega), show x + (k - x + 1) = k + 1 by omega, show x + (k - x) = k by omega] at this
    simpa [ltBy] using this
  intro i j h1 h2 h3
  obtain ⟨m, rfl⟩ : ∃ m, j = i + 1 + m := ⟨j - i - 1, by omega⟩
  clear h2
  induction m with
  | zero => exact step i h1 (by omega)
  | succ m ih => exact Int.lt_trans (step (i + 1 + m) (by omega) (by omega)) (ih (by omega))

set_option maxHeartbeats 4000000 in
set_option maxRecDepth 1000000 in
theorem chosen_choosePivot (blk off : Nat) (na ra : Option Addr) (cap n ncap rcap : Nat) (d : Array It) (o : Ordr) (x y : Nat) (w : World) (h : Rd2 w (some ⟨blk, off, none⟩) d) (hn : d.size = n) (hsz : n ≤ 2000) (hcap : n ≤ cap) (hs0 : 0 ≤ o.shift) (hs1 : o.shift < 64) (hk3 : o.kind ≠ 3) (hx : x < y) (hy : y ≤ n)
    (hN : RdN w na #[(x : Int), (y : Int)]) (hR : RdN w ra #[((choosePivot (ltC (cfO o)) d x y).1 : Int), hintCode (choosePivot (ltC (cfO o)) d x y).2]) :
    Calls Tryz.prog 55 #[.int .i64 8, .slice (some ⟨blk, off, none⟩) n cap, vOrd o, .slice na 2 ncap, .slice ra 2 rcap] w fun e w' => e = .returned (.bool true) ∧ Below w.heap.size w w' := by
  obtain ⟨P, hint, hP⟩ : ∃ P hint, choosePivot (ltC (cfO o)) d x y = (P, hint) := ⟨_, _, rfl⟩
  have hrange := choosePivot_holds (lt := ltC (cfO o)) d x y hx
  rw [hP] at hR hrange
  dsimp only at hR hrange
  obtain ⟨H, hH⟩ : ∃ H, H = hintCode hint := ⟨_, rfl⟩
  rw [← hH] at hR
  have hH0 : 0 ≤ H ∧ H ≤ 2 := by rw [hH]; cases hint <;> simp [hintCode]
  obtain ⟨A, hA⟩ : ∃ A, A = ascB (ltC (cfO o)) (d.extract x y) := ⟨_, rfl⟩
  obtain ⟨F, hF⟩ : ∃ F, F = fallsB (ltC (cfO o)) (d.extract x y) := ⟨_, rfl⟩
  have hA1 : A = true → H = 1 := fun e => by
    have e2 := choosePivot_up d x y (adj_all (μ := muO o) (by omega) (by rw [← ltC_by o hk3, ← hA]; exact e))
    rw [← ltC_by o hk3, hP] at e2
    dsimp only at e2
    rw [hH, e2]; rfl
  have hF1 : F = true → 50 ≤ y - x → H = 2 := fun e h50 => by
    have e2 := choosePivot_down d x y h50 (fall_all (μ := muO o) (by omega) (by rw [← ltC_by o hk3, ← hF]; exact e))
    rw [← ltC_by o hk3, hP] at e2
    dsimp only at e2
    rw [hH, e2]; rfl
  obtain ⟨W, hW⟩ : ∃ W, W = w.alloc (.cells #[.int .i64 o.kind, .int .i64 o.shift, .int .u64 o.m0, .int .u64 o.m1, .int .u64 o.m2] 26) := ⟨_, rfl⟩
  have B0 : Below w.heap.size w W := by rw [hW]; exact below_alloc _ _
  have K0 : BoxK W w.heap.size o.kind o.shift o.m0 o.m1 o.m2 := by rw [hW]; exact boxK_new _ _ _ _ _ _ _
  obtain ⟨nb, noff, rfl, hnb, hnc⟩ := hN (by simp)
  obtain ⟨rb, roff, rfl, hrb, hrc⟩ := hR (by simp)
  have n0 := (B0.cell (p := ⟨nb, noff + 0, none⟩) hnb).trans (hnc 0 (by simp))
  have n1 := (B0.cell (p := ⟨nb, noff + 1, none⟩) hnb).trans (hnc 1 (by simp))
  have r0 := (B0.cell (p := ⟨rb, roff + 0, none⟩) hrb).trans (hrc 0 (by simp))
  have r1 := (B0.cell (p := ⟨rb, roff + 1, none⟩) hrb).trans (hrc 1 (by simp))
  simp at n0 n1 r0 r1
  have hPart : ∀ V, Below W.heap.size W V → Calls Tryz.prog 49 #[.slice (if cap = x then some ⟨blk, off, none⟩ else some ⟨blk, off + x * 2, none⟩) (y - x) (cap - x), vOrd o] V fun e w' => e = .returned (.bool A) ∧ Below V.heap.size V w' := fun V hV => by
    have := asc_calls (if cap = x then some ⟨blk, off, none⟩ else some ⟨blk, off + x * 2, none⟩) (cap - x) (y - x) (d.extract x y) o V ((Rd2.partIf x y cap (by omega) (by omega) h).keep (Below.next B0 hV)) (by rw [Array.size_extract]; omega) (by omega) hs0 hs1
    rwa [← hA] at this
  have hFall : ∀ V, Below W.heap.size W V → Calls Tryz.prog 117 #[.slice (if cap = x then some ⟨blk, off, none⟩ else some ⟨blk, off + x * 2, none⟩) (y - x) (cap - x), vOrd o] V fun e w' => e = .returned (.bool F) ∧ Below V.heap.size V w' := fun V hV => by
    have := falls_calls (if cap = x then some ⟨blk, off, none⟩ else some ⟨blk, off + x * 2, none⟩) (cap - x) (y - x) (d.extract x y) o V ((Rd2.partIf x y cap (by omega) (by omega) h).keep (Below.next B0 hV)) (by rw [Array.size_extract]; omega) (by omega) hs0 hs1
    rwa [← hF] at this
  rw [if_neg (by omega)] at hPart hFall
  have HPart : Aside _ := hPart
  have HFall : Aside _ := hFall
  have HB : Aside _ := B0
  have HA1 : Aside _ := hA1
  have HF1 : Aside _ := hF1
  have HW : Aside _ := hW
  have ncx : ¬ cap = x := by omega
  clear hP hH hA hF hA1 hF1 hPart hFall hN hR hnc hrc hnb hrb h hn hs0 hs1 hk3
  obtain ⟨k, sh, m0, m1, m2⟩ := o
  obtain ⟨_, k0, k1, k2, k3, k4⟩ := K0
  have f0 := fun q => (World.cell?_drewN W q ⟨nb, noff, none⟩).trans n0
  have f1 := fun q => (World.cell?_drewN W q ⟨nb, noff + 1, none⟩).trans n1
  have g0 := fun q => (World.cell?_drewN W q ⟨rb, roff, none⟩).trans r0
  have g1 := fun q => (World.cell?_drewN W q ⟨rb, roff + 1, none⟩).trans r1
  have j0 := fun q => (World.cell?_drewN W q ⟨w.heap.size, 0, none⟩).trans k0
  have j1 := fun q => (World.cell?_drewN W q ⟨w.heap.size, 1, none⟩).trans k1
  have j2 := fun q => (World.cell?_drewN W q ⟨w.heap.size, 2, none⟩).trans k2
  have j3 := fun q => (World.cell?_drewN W q ⟨w.heap.size, 3, none⟩).trans k3
  have j4 := fun q => (World.cell?_drewN W q ⟨w.heap.size, 4, none⟩).trans k4
  have wx : IntKind.i64.wrap (x : Int) = (x : Int) := by rw [IntKind.wrap_i64]; omega
  have wy : IntKind.i64.wrap (y : Int) = (y : Int) := by rw [IntKind.wrap_i64]; omega
  have ox : (x : Int) ≤ (y : Int) := by omega
  have oy : (y : Int) ≤ (cap : Int) := by omega
  have e1 : ¬ P < x := by omega
  have e2 : ¬ y ≤ P := by omega
  have e3 : ¬ H < 0 := by omega
  have e4 : ¬ 2 < H := by omega
  clear n0 n1 r0 r1 k0 k1 k2 k3 k4 B0 hrange hH0 hcap
  go_enter Tryz.func55, Tryz.ntmps55
  go_upto_region 3 with fail
  rw [← hW]
  clear hW
  go_quiet (fail)
  obtain ⟨V, hV⟩ : ∃ V, V = W.drewN nq := ⟨_, rfl⟩
  rw [← hV]
  have BV : Aside (Below W.heap.size W V) := by show Below _ _ _; rw [hV]; exact below_drewN (Below.refl _ _) nq
  have CW : Aside (W.cell? ⟨rb, roff + 1, none⟩ = some (.int .i64 H) ∧ W.cell? ⟨w.heap.size, 0, none⟩ = some (.int .i64 k) ∧ W.cell? ⟨w.heap.size, 1, none⟩ = some (.int .i64 sh) ∧ W.cell? ⟨w.heap.size, 2, none⟩ = some (.int .u64 m0) ∧ W.cell? ⟨w.heap.size, 3, none⟩ = some (.int .u64 m1) ∧ W.cell? ⟨w.heap.size, 4, none⟩ = some (.int .u64 m2)) := ⟨(World.cell?_drewN W 0 _).symm.trans (g1 0), (World.cell?_drewN W 0 _).symm.trans (j0 0), (World.cell?_drewN W 0 _).symm.trans (j1 0), (World.cell?_drewN W 0 _).symm.trans (j2 0), (World.cell?_drewN W 0 _).symm.trans (j3 0), (World.cell?_drewN W 0 _).symm.trans (j4 0)⟩
  have f0' : ∀ q, (V.drewN q).cell? ⟨nb, noff, none⟩ = some (.int .i64 (x : Int)) := fun q => (World.cell?_drewN V q _).trans (by rw [hV]; exact f0 nq)
  have f1' : ∀ q, (V.drewN q).cell? ⟨nb, noff + 1, none⟩ = some (.int .i64 (y : Int)) := fun q => (World.cell?_drewN V q _).trans (by rw [hV]; exact f1 nq)
  have g0' : ∀ q, (V.drewN q).cell? ⟨rb, roff, none⟩ = some (.int .i64 (P : Int)) := fun q => (World.cell?_drewN V q _).trans (by rw [hV]; exact g0 nq)
  have g1' : ∀ q, (V.drewN q).cell? ⟨rb, roff + 1, none⟩ = some (.int .i64 H) := fun q => (World.cell?_drewN V q _).trans (by rw [hV]; exact g1 nq)
  clear f0 f1 g0 g1 j0 j1 j2 j3 j4 hV
  go_wp2_with fail
  go_quiet (fail)
  have BX : Aside (Below W.heap.size W (V.drewN nq)) := below_drewN BV.out nq
  clear f0' f1' g0' g1' BV
  generalize V.drewN nq = X at BX ⊢
  have x0 := (BX.out.cell (block_lt_of_cell CW.out.2.1)).trans CW.out.2.1
  have x1 := (BX.out.cell (block_lt_of_cell CW.out.2.2.1)).trans CW.out.2.2.1
  have x2 := (BX.out.cell (block_lt_of_cell CW.out.2.2.2.1)).trans CW.out.2.2.2.1
  have x3 := (BX.out.cell (block_lt_of_cell CW.out.2.2.2.2.1)).trans CW.out.2.2.2.2.1
  have x4 := (BX.out.cell (block_lt_of_cell CW.out.2.2.2.2.2)).trans CW.out.2.2.2.2.2
  cases A with
  | false =>
    skip
    go_wp2_with fail
    refine Calls.mono (HPart.out _ BX.out) ?_
    rintro e V3 ⟨rfl, hb3⟩
    have B3 : Aside (Below W.heap.size W V3) := Below.next BX.out hb3
    have r1 : V3.cell? ⟨rb, roff + 1, none⟩ = some (.int .i64 H) := (B3.out.cell (block_lt_of_cell CW.out.1)).trans CW.out.1
    have k0 := (B3.out.cell (block_lt_of_cell CW.out.2.1)).trans CW.out.2.1
    have k1 := (B3.out.cell (block_lt_of_cell CW.out.2.2.1)).trans CW.out.2.2.1
    have k2 := (B3.out.cell (block_lt_of_cell CW.out.2.2.2.1)).trans CW.out.2.2.2.1
    have k3 := (B3.out.cell (block_lt_of_cell CW.out.2.2.2.2.1)).trans CW.out.2.2.2.2.1
    have k4 := (B3.out.cell (block_lt_of_cell CW.out.2.2.2.2.2)).trans CW.out.2.2.2.2.2
    clear hb3 x0 x1 x2 x3 x4
    by_cases h50 : y - x < 50
    · have h50z : ((y - x : Nat) : Int) < 50 := by omega
      have h50y : (y : Int) - (x : Int) < 50 := by omega
      go_wp2_with fail
      go_ret
      exact ⟨rfl, Below.next HB.out B3.out⟩
    · have h50z : ¬ ((y - x : Nat) : Int) < 50 := by omega
      have h50y : ¬ (y : Int) - (x : Int) < 50 := by omega
      go_wp2_with fail
      refine Calls.mono (HFall.out _ B3.out) ?_
      rintro e V4 ⟨rfl, hb4⟩
      have B4 : Aside (Below W.heap.size W V4) := Below.next B3.out hb4
      have r1' : V4.cell? ⟨rb, roff + 1, none⟩ = some (.int .i64 H) := (B4.out.cell (block_lt_of_cell CW.out.1)).trans CW.out.1
      clear hb4 r1 k0 k1 k2 k3 k4
      cases F with
      | false =>
        go_wp2_with fail
        go_ret
        exact ⟨rfl, Below.next HB.out B4.out⟩
      | true =>
        obtain rfl : H = 2 := HF1.out rfl (by omega)
        go_wp2_with fail
        go_ret
        exact ⟨rfl, Below.next HB.out B4.out⟩
  | true =>
    obtain rfl : H = 1 := HA1.out rfl
    go_wp2_with fail
    refine Calls.mono (HPart.out _ BX.out) ?_
    rintro e V3 ⟨rfl, hb3⟩
    have B3 : Aside (Below W.heap.size W V3) := Below.next BX.out hb3
    have r1 : V3.cell? ⟨rb, roff + 1, none⟩ = some (.int .i64 1) := (B3.out.cell (block_lt_of_cell CW.out.1)).trans CW.out.1
    have k0 := (B3.out.cell (block_lt_of_cell CW.out.2.1)).trans CW.out.2.1
    have k1 := (B3.out.cell (block_lt_of_cell CW.out.2.2.1)).trans CW.out.2.2.1
    have k2 := (B3.out.cell (block_lt_of_cell CW.out.2.2.2.1)).trans CW.out.2.2.2.1
    have k3 := (B3.out.cell (block_lt_of_cell CW.out.2.2.2.2.1)).trans CW.out.2.2.2.2.1
    have k4 := (B3.out.cell (block_lt_of_cell CW.out.2.2.2.2.2)).trans CW.out.2.2.2.2.2
    clear hb3 x0 x1 x2 x3 x4
    by_cases h50 : y - x < 50
    · have h50z : ((y - x : Nat) : Int) < 50 := by omega
      have h50y : (y : Int) - (x : Int) < 50 := by omega
      go_wp2_with fail
      go_ret
      exact ⟨rfl, Below.next HB.out B3.out⟩
    · have h50z : ¬ ((y - x : Nat) : Int) < 50 := by omega
      have h50y : ¬ (y : Int) - (x : Int) < 50 := by omega
      go_wp2_with fail
      refine Calls.mono (HFall.out _ B3.out) ?_
      rintro e V4 ⟨rfl, hb4⟩
      have B4 : Aside (Below W.heap.size W V4) := Below.next B3.out hb4
      have r1' : V4.cell? ⟨rb, roff + 1, none⟩ = some (.int .i64 1) := (B4.out.cell (block_lt_of_cell CW.out.1)).trans CW.out.1
      clear hb4 r1 k0 k1 k2 k3 k4
      cases F with
      | false =>
        go_wp2_with fail
        go_ret
        exact ⟨rfl, Below.next HB.out B4.out⟩
      | true =>
        exact absurd (HF1.out rfl (by omega)) (by decide)
end Go.Proofs.YtglgmkikegbchaaGreat
