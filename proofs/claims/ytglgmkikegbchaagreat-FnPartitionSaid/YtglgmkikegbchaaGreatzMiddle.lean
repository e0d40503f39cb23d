/- spec.middle: of one of three places whose element has at most one of the others ahead of it, and at most one behind. -/
import Derived.Test.YtglgmkikegbchaaGreatSOrd
import Derived.Test.YtglgmkikegbchaaGreatzNums
import Derived.Test.YtglgmkikegbchaaGreatzDoes
import Derived.Deep.CutRange
import Derived.Test.YtglgmkikegbchaaGreatQw
namespace Go.Proofs.YtglgmkikegbchaaGreat
open Go.RowKit Go.Sort

theorem one_calls (b : Bool) (w : World) : Calls Tryz.prog 116 #[.bool b] w fun e w' => e = .returned (.int .i64 (flagN b)) ∧ w' = w := by
  cases b
  · go_enter Tryz.func116, Tryz.ntmps116
    go_wp2
    go_ret
    exact ⟨rfl, rfl⟩
  · go_enter Tryz.func116, Tryz.ntmps116
    go_wp2
    go_ret
    exact ⟨rfl, rfl⟩

theorem cell_drawn {w : World} {a : Addr} {v : Value} (h : w.cell? a = some v) (q : Nat) : (w.drewN q).cell? a = some v := (World.cell?_drewN w q a).trans h
/-- How many of the first of some places have an element that p holds of. -/
def countC (p : Nat → Bool) : Nat → Int
  | 0 => 0
  | i + 1 => countC p i + flagN (p i)
theorem flagN_range (b : Bool) : 0 ≤ flagN b ∧ flagN b ≤ 1 := by cases b <;> simp [flagN]
theorem countC_range (p : Nat → Bool) : ∀ i, 0 ≤ countC p i ∧ countC p i ≤ i
  | 0 => by simp [countC]
  | i + 1 => by have h1 := countC_range p i; have h2 := flagN_range (p i); simp only [countC]; omega

set_option maxHeartbeats 8000000 in
set_option maxRecDepth 1000000 in
theorem middle_calls (a : Option Addr) (nb noff rb roff cap n ncap rcap : Nat) (d : Array It) (o : Ordr) (T : Nat → Nat) (m s : Nat) (w : World) (h : Rd2 w a d) (hn : d.size = n) (hsz : n ≤ 2000) (hs0 : 0 ≤ o.shift) (hs1 : o.shift < 64)
    (hnb : nb < w.heap.size) (hT : ∀ i, i < 3 → T i < n ∧ w.cell? ⟨nb, noff + i, none⟩ = some (.int .i64 (T i))) (hrb : rb < w.heap.size) (hr0 : w.cell? ⟨rb, roff, none⟩ = some (.int .i64 m)) (hr1 : w.cell? ⟨rb, roff + 1, none⟩ = some (.int .i64 s))
    (hm : m = T 0 ∨ m = T 1 ∨ m = T 2) (hs3 : s ≤ 3) (hA : countC (fun i => ltC (cfO o) d[T i]! d[m]!) 3 ≤ 1) (hB : countC (fun i => ltC (cfO o) d[m]! d[T i]!) 3 ≤ 1) :
    Calls Tryz.prog 118 #[.slice a n cap, vOrd o, .slice (some ⟨nb, noff, none⟩) 3 ncap, .slice (some ⟨rb, roff, none⟩) 2 rcap] w fun e w' => e = .returned (.bool true) ∧ Below w.heap.size w w' := by
  have LC0 := fun x y W => sless_calls o hs0 hs1 x y W
  generalize ltC (cfO o) = lt at LC0 hA hB
  have LC : Aside _ := LC0
  clear LC0
  clear hs0 hs1
  obtain ⟨k, sh, m0, m1, m2⟩ := o
  obtain ⟨W, hW⟩ : ∃ W, W = w.alloc (.cells #[.int .i64 k, .int .i64 sh, .int .u64 m0, .int .u64 m1, .int .u64 m2] 26) := ⟨_, rfl⟩
  have B0 : Below w.heap.size w W := by rw [hW]; exact below_alloc _ _
  have K0 : Aside (BoxK W w.heap.size k sh m0 m1 m2) := by show BoxK _ _ _ _ _ _ _; rw [hW]; exact boxK_new _ _ _ _ _ _ _
  have hmn : m < n := by
    rcases hm with rfl | rfl | rfl
    · exact (hT 0 (by omega)).1
    · exact (hT 1 (by omega)).1
    · exact (hT 2 (by omega)).1
  obtain ⟨blk, off, rfl, hbl, hc⟩ := h (by omega)
  obtain ⟨x, hx⟩ : ∃ x, x = T 0 := ⟨_, rfl⟩
  obtain ⟨y, hy⟩ : ∃ y, y = T 1 := ⟨_, rfl⟩
  obtain ⟨z, hz⟩ : ∃ z, z = T 2 := ⟨_, rfl⟩
  have t0 := cell_drawn ((B0.cell (p := ⟨nb, noff + 0, none⟩) hnb).trans (hT 0 (by omega)).2)
  have t1 := cell_drawn ((B0.cell (p := ⟨nb, noff + 1, none⟩) hnb).trans (hT 1 (by omega)).2)
  have t2 := cell_drawn ((B0.cell (p := ⟨nb, noff + 2, none⟩) hnb).trans (hT 2 (by omega)).2)
  rw [← hx] at t0
  rw [← hy] at t1
  rw [← hz] at t2
  rw [Nat.add_zero] at t0
  have r0 := cell_drawn ((B0.cell (p := ⟨rb, roff, none⟩) hrb).trans hr0)
  have r1 := cell_drawn ((B0.cell (p := ⟨rb, roff + 1, none⟩) hrb).trans hr1)
  have HT : Aside (∀ i, i < 3 → T i < n ∧ W.cell? ⟨nb, noff + i, none⟩ = some (.int .i64 (T i))) := fun i hi => ⟨(hT i hi).1, (B0.cell (p := ⟨nb, noff + i, none⟩) hnb).trans (hT i hi).2⟩
  have HR0 : Aside (W.cell? ⟨rb, roff, none⟩ = some (.int .i64 m)) := (B0.cell (p := ⟨rb, roff, none⟩) hrb).trans hr0
  have HD : Aside (d.size = n ∧ ∀ i, i < d.size → W.cell? ⟨blk, off + i * 2, none⟩ = some (.int .i64 d[i]!.1) ∧ W.cell? ⟨blk, off + i * 2 + 1, none⟩ = some (.int .i64 d[i]!.2)) :=
    ⟨hn, fun i hi => ⟨(B0.cell (p := ⟨blk, off + i * 2, none⟩) hbl).trans (hc i hi).1, (B0.cell (p := ⟨blk, off + i * 2 + 1, none⟩) hbl).trans (hc i hi).2⟩⟩
  have HB : Aside (Below w.heap.size w W) := B0
  have HAB : Aside (countC (fun i => lt d[T i]! d[m]!) 3 ≤ 1 ∧ countC (fun i => lt d[m]! d[T i]!) 3 ≤ 1) := ⟨hA, hB⟩
  have mixed : Tryz.prog.follows .mixedOrders = true := by kernel_rfl
  have s3z : ¬ (3 : Int) < (s : Int) := by omega
  have hcase : (m = x) ∨ (m ≠ x ∧ m = y) ∨ (m ≠ x ∧ m ≠ y ∧ m = z) := by omega
  have HW : Aside _ := hW
  clear hm hx hy hz hT hr0 hr1 hA hB hnb hrb hbl hc B0 h hn
  go_enter Tryz.func118, Tryz.ntmps118
  go_upto_region 1 with fail
  rw [← hW]
  clear hW
  go_cut [54] from 13 to 54 (fun s54 wx => s54 = .bool false ∧ Aside (Below W.heap.size W wx))
  case first =>
    rcases hcase with hm | ⟨hm1, hm2⟩ | ⟨hm1, hm2, hm3⟩
    · subst hm
      refine region_drew (by assumption) (by kernel_rfl) ?_
      repeat' (refine Qw.step (fun K hK => ?_); go_simp; refine hK _ ?_; clear hK K)
      refine Qw.nil ?_
      intro _ hw'
      obtain ⟨nq, hw''⟩ := hw'
      subst hw''
      go_wp2_with fail
      go_meet
      case rel => exact ⟨rfl, below_drewN (Below.refl _ _) _⟩
    · have hm1z : ¬ (m : Int) = (x : Int) := by omega
      subst hm2
      refine region_drew (by assumption) (by kernel_rfl) ?_
      repeat' (refine Qw.step (fun K hK => ?_); go_simp; refine hK _ ?_; clear hK K)
      refine Qw.nil ?_
      intro _ hw'
      obtain ⟨nq, hw''⟩ := hw'
      subst hw''
      go_wp2_with fail
      go_meet
      case rel => exact ⟨rfl, below_drewN (Below.refl _ _) _⟩
    · have hm1z : ¬ (m : Int) = (x : Int) := by omega
      have hm2z : ¬ (m : Int) = (y : Int) := by omega
      subst hm3
      refine region_drew (by assumption) (by kernel_rfl) ?_
      repeat' (refine Qw.step (fun K hK => ?_); go_simp; refine hK _ ?_; clear hK K)
      refine Qw.nil ?_
      intro _ hw'
      obtain ⟨nq, hw''⟩ := hw'
      subst hw''
      go_wp2_with fail
      go_meet
      case rel => exact ⟨rfl, below_drewN (Below.refl _ _) _⟩
  case rest =>
    obtain ⟨rfl, Bc⟩ := hcut
    clear t0 t1 t2 r0 r1 hcase s3z hs3
    go_wp2_with fail
    go_loopg [9, 10, 57] 3 (fun g v9 v10 vi wr => ∃ i : Nat, v9 = .int .i64 (countC (fun i => lt d[T i]! d[m]!) i) ∧ v10 = .int .i64 (countC (fun i => lt d[m]! d[T i]!) i) ∧ vi = .int .i64 i ∧ i ≤ 3 ∧ 3 - i ≤ g ∧ Aside (Below W.heap.size W wr))
    case atStart => exact ⟨0, rfl, rfl, rfl, by omega, by omega, Bc⟩
    case round =>
      clear Bc
      obtain ⟨i, rfl, rfl, rfl, hi3, hg, Bk⟩ := hrel
      by_cases hlt : i < 3
      · have hltz : (i : Int) < 3 := by omega
        obtain ⟨hd, hc⟩ := HD.out
        obtain ⟨hTn, hTc⟩ := HT.out i hlt
        obtain ⟨j, hj⟩ : ∃ j, j = T i := ⟨_, rfl⟩
        rw [← hj] at hTn hTc
        have tc : wr.cell? ⟨nb, noff + i, none⟩ = some (.int .i64 j) := (Bk.out.cell (block_lt_of_cell hTc)).trans hTc
        obtain ⟨⟨x1, x2⟩, hxv⟩ : ∃ v : It, v = d[j]! := ⟨_, rfl⟩
        obtain ⟨⟨y1, y2⟩, hyv⟩ : ∃ v : It, v = d[m]! := ⟨_, rfl⟩
        obtain ⟨e1, e2⟩ := hc j (by omega)
        obtain ⟨e3, e4⟩ := hc m (by omega)
        rw [← hxv] at e1 e2
        rw [← hyv] at e3 e4
        obtain ⟨A, hA⟩ : ∃ A, A = countC (fun i => lt d[T i]! d[m]!) i := ⟨_, rfl⟩
        obtain ⟨B, hB⟩ : ∃ B, B = countC (fun i => lt d[m]! d[T i]!) i := ⟨_, rfl⟩
        obtain ⟨c1, hc1⟩ : ∃ c, c = lt (x1, x2) (y1, y2) := ⟨_, rfl⟩
        obtain ⟨c2, hc2⟩ : ∃ c, c = lt (y1, y2) (x1, x2) := ⟨_, rfl⟩
        obtain ⟨f1, hf1⟩ : ∃ f, f = flagN c1 := ⟨_, rfl⟩
        obtain ⟨f2, hf2⟩ : ∃ f, f = flagN c2 := ⟨_, rfl⟩
        have rA := countC_range (fun i => lt d[T i]! d[m]!) i
        have rB := countC_range (fun i => lt d[m]! d[T i]!) i
        rw [← hA] at rA
        rw [← hB] at rB
        have rf1 := flagN_range c1
        have rf2 := flagN_range c2
        rw [← hf1] at rf1
        rw [← hf2] at rf2
        have HA : Aside (countC (fun i => lt d[T i]! d[m]!) (i + 1) = A + f1) := by show countC _ i + flagN (lt d[T i]! d[m]!) = _; rw [← hA, ← hj, ← hxv, ← hyv, ← hc1, ← hf1]
        have HB2 : Aside (countC (fun i => lt d[m]! d[T i]!) (i + 1) = B + f2) := by show countC _ i + flagN (lt d[m]! d[T i]!) = _; rw [← hB, ← hj, ← hxv, ← hyv, ← hc2, ← hf2]
        rw [← hA, ← hB]
        have hl1 : ∀ (V : World) (p : Regrown), Calls Tryz.prog 47 #[.agg #[.int .i64 k, .int .i64 sh, .int .u64 m0, .int .u64 m1, .int .u64 m2], .agg #[.int .i64 x1, .int .i64 x2], .agg #[.int .i64 y1, .int .i64 y2]] (grow (redrawn V p.d) p.os) fun e w'' => e = .returned (.bool c1) ∧ ∃ p : Regrown, w'' = grow (redrawn V p.d) p.os := fun V p => by
          rw [hc1]; exact Calls.regrown_of (LC.out (x1, x2) (y1, y2) _)
        have hl2 : ∀ (V : World) (p : Regrown), Calls Tryz.prog 47 #[.agg #[.int .i64 k, .int .i64 sh, .int .u64 m0, .int .u64 m1, .int .u64 m2], .agg #[.int .i64 y1, .int .i64 y2], .agg #[.int .i64 x1, .int .i64 x2]] (grow (redrawn V p.d) p.os) fun e w'' => e = .returned (.bool c2) ∧ ∃ p : Regrown, w'' = grow (redrawn V p.d) p.os := fun V p => by
          rw [hc2]; exact Calls.regrown_of (LC.out (y1, y2) (x1, x2) _)
        have ho1 : ∀ (V : World) (p : Regrown), Calls Tryz.prog 116 #[.bool c1] (grow (redrawn V p.d) p.os) fun e w'' => e = .returned (.int .i64 f1) ∧ ∃ p : Regrown, w'' = grow (redrawn V p.d) p.os := fun V p => by
          rw [hf1]; exact (one_calls c1 _).mono fun e w' ⟨h1, h2⟩ => ⟨h1, p, h2⟩
        have ho2 : ∀ (V : World) (p : Regrown), Calls Tryz.prog 116 #[.bool c2] (grow (redrawn V p.d) p.os) fun e w'' => e = .returned (.int .i64 f2) ∧ ∃ p : Regrown, w'' = grow (redrawn V p.d) p.os := fun V p => by
          rw [hf2]; exact (one_calls c2 _).mono fun e w' ⟨h1, h2⟩ => ⟨h1, p, h2⟩
        have s1 : IntKind.i64.wrap (A + f1) = A + f1 := by rw [IntKind.wrap_i64]; omega
        have s2 : IntKind.i64.wrap (B + f2) = B + f2 := by rw [IntKind.wrap_i64]; omega
        have jz : (j : Int) < (n : Int) := by omega
        have mz : (m : Int) < (n : Int) := by omega
        have wj : IntKind.i64.wrap (j : Int) = (j : Int) := by rw [IntKind.wrap_i64]; omega
        have wm : IntKind.i64.wrap (m : Int) = (m : Int) := by rw [IntKind.wrap_i64]; omega
        have HE : Aside (W.cell? ⟨blk, off + j * 2, none⟩ = some (.int .i64 x1) ∧ W.cell? ⟨blk, off + j * 2 + 1, none⟩ = some (.int .i64 x2) ∧ W.cell? ⟨blk, off + m * 2, none⟩ = some (.int .i64 y1) ∧ W.cell? ⟨blk, off + m * 2 + 1, none⟩ = some (.int .i64 y2)) := ⟨e1, e2, e3, e4⟩
        have keep : ∀ (V : World), Below W.heap.size W V → ∀ q v, W.cell? q = some v → ∀ dd os, (grow (redrawn V dd) os).cell? q = some v := fun V hV q v hq => cell_regrown ((hV.cell (block_lt_of_cell hq)).trans hq)
        have KP : Aside _ := keep
        clear hc hTc hTn hj hxv hyv e1 e2 e3 e4 hA hB hc1 hc2 hf1 hf2 keep hd
        go_upto_region 7 with fail
        clear tc
        obtain ⟨_, k0, k1, k2, k3, k4⟩ := K0.out
        have p0 := KP.out wr Bk.out _ _ k0
        have p1 := KP.out wr Bk.out _ _ k1
        have p2 := KP.out wr Bk.out _ _ k2
        have p3 := KP.out wr Bk.out _ _ k3
        have p4 := KP.out wr Bk.out _ _ k4
        have q0 := KP.out wr Bk.out _ _ HR0.out
        have q1 := KP.out wr Bk.out _ _ HE.out.1
        have q2 := KP.out wr Bk.out _ _ HE.out.2.1
        have q3 := KP.out wr Bk.out _ _ HE.out.2.2.1
        have q4 := KP.out wr Bk.out _ _ HE.out.2.2.2
        clear k0 k1 k2 k3 k4
        refine wp_region_quiet_below (by assumption) (by kernel_rfl) ?_
        repeat' (quiet_step (first | with_reducible exact hl1 _ _ | with_reducible exact ho1 _ _))
        all_goals
          refine wpQuiet_nil ?_
          intro _ hw'
          obtain ⟨⟨nq, osq⟩, hw''⟩ := hw'
          subst hw''
        have B1 : Aside (Below W.heap.size W (grow (redrawn wr nq) osq)) := Below.next Bk.out (below_regrown wr nq osq)
        clear p0 p1 p2 p3 p4 q0 q1 q2 q3 q4 Bk
        generalize grow (redrawn wr nq) osq = V at B1 ⊢
        go_upto_region 8 with fail
        obtain ⟨_, k0, k1, k2, k3, k4⟩ := K0.out
        have p0 := KP.out V B1.out _ _ k0
        have p1 := KP.out V B1.out _ _ k1
        have p2 := KP.out V B1.out _ _ k2
        have p3 := KP.out V B1.out _ _ k3
        have p4 := KP.out V B1.out _ _ k4
        have q0 := KP.out V B1.out _ _ HR0.out
        have q1 := KP.out V B1.out _ _ HE.out.1
        have q2 := KP.out V B1.out _ _ HE.out.2.1
        have q3 := KP.out V B1.out _ _ HE.out.2.2.1
        have q4 := KP.out V B1.out _ _ HE.out.2.2.2
        clear k0 k1 k2 k3 k4
        refine wp_region_quiet_below (by assumption) (by kernel_rfl) ?_
        repeat' (quiet_step (first | with_reducible exact hl2 _ _ | with_reducible exact ho2 _ _))
        all_goals
          refine wpQuiet_nil ?_
          intro _ hw'
          obtain ⟨⟨mq, psq⟩, hw''⟩ := hw'
          subst hw''
        have B2 : Aside (Below W.heap.size W (grow (redrawn V mq) psq)) := Below.next B1.out (below_regrown V mq psq)
        clear p0 p1 p2 p3 p4 q0 q1 q2 q3 q4 B1 hl1 hl2 ho1 ho2 KP
        go_wp2_with fail
        go_roundg (3 - (i + 1))
        case measure => omega
        case rel => exact ⟨i + 1, by rw [HA.out], by rw [HB2.out], by go_num, by omega, by omega, B2⟩
      · have hltz : ¬ (i : Int) < 3 := by omega
        obtain rfl : i = 3 := by omega
        obtain ⟨z1, z2⟩ := HAB.out
        go_wp2_with fail
        go_ret
        exact ⟨rfl, Below.next HB.out Bk.out⟩
end Go.Proofs.YtglgmkikegbchaaGreat
