/- The specification's comparing: less tells what the program's orders tell; Ascends, Falls. -/
import Derived.Test.YtglgmkikegbchaaGreatBase
import Derived.Lib.QuietBelow
namespace Go.Proofs.YtglgmkikegbchaaGreat
open Go.RowKit Go.Sort

theorem scompare_calls (a b : Int) (w : World) : Calls Tryz.prog 171 #[.int .i64 a, .int .i64 b] w fun e w' => e = .returned (.int .i64 (sg a b)) ∧ w' = w := by
  unfold sg
  by_cases h : a < b
  · rw [if_pos h]
    go_enter Tryz.func171, Tryz.ntmps171
    go_wp2
    go_ret
    exact ⟨rfl, rfl⟩
  · rw [if_neg h]
    by_cases h2 : b < a
    · rw [if_pos h2]
      go_enter Tryz.func171, Tryz.ntmps171
      go_wp2
      go_ret
      exact ⟨rfl, rfl⟩
    · rw [if_neg h2]
      go_enter Tryz.func171, Tryz.ntmps171
      go_wp2
      go_ret
      exact ⟨rfl, rfl⟩

set_option maxHeartbeats 2000000 in
set_option maxRecDepth 1000000 in
theorem scmp_up (o : Ordr) (hk1 : o.kind ≠ 1) (hk2 : o.kind ≠ 2) (hk3 : o.kind ≠ 3) (x y : It) (W : World) : Calls Tryz.prog 114 #[vOrd o, vIt x, vIt y] W fun e w' => e = .returned (.int .i64 (sg x.1 y.1)) ∧ Below W.heap.size W w' := by
  obtain ⟨k, s, m0, m1, m2⟩ := o
  obtain ⟨x1, x2⟩ := x
  obtain ⟨y1, y2⟩ := y
  dsimp only at hk1 hk2 hk3
  have a1 : (k == 1) = false := by simpa using hk1
  have a2 : (k == 2) = false := by simpa using hk2
  have a3 : (k == 3) = false := by simpa using hk3
  clear hk1 hk2 hk3
  have B0 : Aside (Below W.heap.size W (((W.alloc (.cells #[.int .i64 k, .int .i64 s, .int .u64 m0, .int .u64 m1, .int .u64 m2] 26)).alloc (.cells #[.int .i64 x1, .int .i64 x2] 49)).alloc (.cells #[.int .i64 y1, .int .i64 y2] 49))) := Below.next (Below.next (below_alloc _ _) (below_alloc _ _)) (below_alloc _ _)
  go_enter Tryz.func114, Tryz.ntmps114
  go_wp2_with fail
  refine (scompare_calls x1 y1 _).mono ?_
  rintro e w' ⟨rfl, rfl⟩
  go_wp2_with fail
  go_ret
  exact ⟨rfl, B0.out⟩

set_option maxHeartbeats 2000000 in
set_option maxRecDepth 1000000 in
theorem scmp_down (o : Ordr) (hk1 : o.kind = 1) (x y : It) (W : World) : Calls Tryz.prog 114 #[vOrd o, vIt x, vIt y] W fun e w' => e = .returned (.int .i64 (sg y.1 x.1)) ∧ Below W.heap.size W w' := by
  obtain ⟨k, s, m0, m1, m2⟩ := o
  obtain ⟨x1, x2⟩ := x
  obtain ⟨y1, y2⟩ := y
  dsimp only at hk1
  subst hk1
  have B0 : Aside (Below W.heap.size W (((W.alloc (.cells #[.int .i64 1, .int .i64 s, .int .u64 m0, .int .u64 m1, .int .u64 m2] 26)).alloc (.cells #[.int .i64 x1, .int .i64 x2] 49)).alloc (.cells #[.int .i64 y1, .int .i64 y2] 49))) := Below.next (Below.next (below_alloc _ _) (below_alloc _ _)) (below_alloc _ _)
  go_enter Tryz.func114, Tryz.ntmps114
  go_wp2_with fail
  refine (scompare_calls y1 x1 _).mono ?_
  rintro e w' ⟨rfl, rfl⟩
  go_wp2_with fail
  go_ret
  exact ⟨rfl, B0.out⟩

set_option maxHeartbeats 2000000 in
set_option maxRecDepth 1000000 in
theorem scmp_parts (o : Ordr) (hk1 : o.kind = 2) (h0 : 0 ≤ o.shift) (h63 : o.shift < 64) (x y : It) (W : World) : Calls Tryz.prog 114 #[vOrd o, vIt x, vIt y] W fun e w' => e = .returned (.int .i64 (sg (x.1 / 2 ^ o.shift.toNat) (y.1 / 2 ^ o.shift.toNat))) ∧ Below W.heap.size W w' := by
  obtain ⟨k, s, m0, m1, m2⟩ := o
  obtain ⟨x1, x2⟩ := x
  obtain ⟨y1, y2⟩ := y
  dsimp only at hk1 h0 h63
  subst hk1
  obtain ⟨n, rfl⟩ := Int.eq_ofNat_of_zero_le h0
  dsimp only
  rw [Int.toNat_natCast]
  have B0 : Aside (Below W.heap.size W (((W.alloc (.cells #[.int .i64 2, .int .i64 (n : Int), .int .u64 m0, .int .u64 m1, .int .u64 m2] 26)).alloc (.cells #[.int .i64 x1, .int .i64 x2] 49)).alloc (.cells #[.int .i64 y1, .int .i64 y2] 49))) := Below.next (Below.next (below_alloc _ _) (below_alloc _ _)) (below_alloc _ _)
  go_enter Tryz.func114, Tryz.ntmps114
  go_wp2_with fail
  refine (scompare_calls (x1 / 2 ^ n) (y1 / 2 ^ n) _).mono ?_
  rintro e w' ⟨rfl, rfl⟩
  go_wp2_with fail
  go_ret
  exact ⟨rfl, B0.out⟩

set_option maxHeartbeats 2000000 in
set_option maxRecDepth 1000000 in
theorem scmp_wild (o : Ordr) (hk1 : o.kind = 3) (x y : It) (W : World) : Calls Tryz.prog 114 #[vOrd o, vIt x, vIt y] W fun e w' => e = .returned (.int .i64 (wildC o.m0 o.m1 o.m2 x.1 y.1)) ∧ Below W.heap.size W w' := by
  obtain ⟨k, s, m0, m1, m2⟩ := o
  obtain ⟨x1, x2⟩ := x
  obtain ⟨y1, y2⟩ := y
  dsimp only at hk1
  subst hk1
  have B0 : Aside (Below W.heap.size W (((W.alloc (.cells #[.int .i64 3, .int .i64 s, .int .u64 m0, .int .u64 m1, .int .u64 m2] 26)).alloc (.cells #[.int .i64 x1, .int .i64 x2] 49)).alloc (.cells #[.int .i64 y1, .int .i64 y2] 49))) := Below.next (Below.next (below_alloc _ _) (below_alloc _ _)) (below_alloc _ _)
  go_enter Tryz.func114, Tryz.ntmps114
  go_wp2_with fail
  go_ret
  exact ⟨rfl, B0.out⟩

theorem scmp_calls (o : Ordr) (h0 : 0 ≤ o.shift) (h63 : o.shift < 64) (x y : It) (W : World) : Calls Tryz.prog 114 #[vOrd o, vIt x, vIt y] W fun e w' => e = .returned (.int .i64 (cfO o x y)) ∧ Below W.heap.size W w' := by
  unfold cfO
  by_cases k1 : o.kind = 1
  · rw [if_pos k1]; exact scmp_down o k1 x y W
  · rw [if_neg k1]
    by_cases k2 : o.kind = 2
    · rw [if_pos k2]; exact scmp_parts o k2 h0 h63 x y W
    · rw [if_neg k2]
      by_cases k3 : o.kind = 3
      · rw [if_pos k3]; exact scmp_wild o k3 x y W
      · rw [if_neg k3]; exact scmp_up o k1 k2 k3 x y W

set_option maxHeartbeats 2000000 in
set_option maxRecDepth 1000000 in
theorem sless_calls (o : Ordr) (h0 : 0 ≤ o.shift) (h63 : o.shift < 64) (x y : It) (W : World) : Calls Tryz.prog 47 #[vOrd o, vIt x, vIt y] W fun e w' => e = .returned (.bool (ltC (cfO o) x y)) ∧ Below W.heap.size W w' := by
  have hc := scmp_calls o h0 h63 x y
  unfold ltC
  generalize cfO o x y = c at hc ⊢
  clear h0 h63
  obtain ⟨k, s, m0, m1, m2⟩ := o
  obtain ⟨x1, x2⟩ := x
  obtain ⟨y1, y2⟩ := y
  have B0 : Aside (Below W.heap.size W (((W.alloc (.cells #[.int .i64 k, .int .i64 s, .int .u64 m0, .int .u64 m1, .int .u64 m2] 26)).alloc (.cells #[.int .i64 x1, .int .i64 x2] 49)).alloc (.cells #[.int .i64 y1, .int .i64 y2] 49))) := Below.next (Below.next (below_alloc _ _) (below_alloc _ _)) (below_alloc _ _)
  go_enter Tryz.func47, Tryz.ntmps47
  go_wp2_with fail
  refine (hc _).mono ?_
  rintro e w' ⟨rfl, hb⟩
  have B1 : Aside _ := Below.next B0.out hb
  clear hb hc B0
  go_wp2_with fail
  go_ret
  exact ⟨rfl, B1.out⟩

/-- No element stands ahead of the one in front of it. -/
def ascB (lt : It → It → Bool) (d : Array It) : Bool := decide (∀ i, i < d.size - 1 → lt d[i + 1]! d[i]! = false)
/-- Each element stands ahead of the one in front of it. -/
def fallsB (lt : It → It → Bool) (d : Array It) : Bool := decide (∀ i, i < d.size - 1 → lt d[i + 1]! d[i]! = true)
theorem ascB_true {lt : It → It → Bool} {d : Array It} : ascB lt d = true ↔ ∀ i, i < d.size - 1 → lt d[i + 1]! d[i]! = false := decide_eq_true_iff
theorem fallsB_true {lt : It → It → Bool} {d : Array It} : fallsB lt d = true ↔ ∀ i, i < d.size - 1 → lt d[i + 1]! d[i]! = true := decide_eq_true_iff

set_option maxHeartbeats 4000000 in
set_option maxRecDepth 1000000 in
theorem asc_calls (a : Option Addr) (cap n : Nat) (d : Array It) (o : Ordr) (w : World) (h : Rd2 w a d) (hn : d.size = n) (hsz : n < 4611686018427387904) (h0 : 0 ≤ o.shift) (h63 : o.shift < 64) :
    Calls Tryz.prog 49 #[.slice a n cap, vOrd o] w fun e w' => e = .returned (.bool (ascB (ltC (cfO o)) d)) ∧ Below w.heap.size w w' := by
  have LC := fun x y W => sless_calls o h0 h63 x y W
  obtain ⟨R, hR⟩ : ∃ R, R = ascB (ltC (cfO o)) d := ⟨_, rfl⟩
  rw [← hR]
  have HR : Aside (R = decide (∀ i, i < n - 1 → ltC (cfO o) d[i + 1]! d[i]! = false)) := by show R = _; rw [hR, ← hn]; rfl
  have HD : Aside (Rd2 w a d ∧ d.size = n) := ⟨h, hn⟩
  generalize ltC (cfO o) = lt at LC HR
  clear h hn h0 h63 hR
  obtain ⟨k, s, m0, m1, m2⟩ := o
  have B0 : Aside (Below w.heap.size w (w.alloc (.cells #[.int .i64 k, .int .i64 s, .int .u64 m0, .int .u64 m1, .int .u64 m2] 26))) := below_alloc _ _
  have K0 : Aside (BoxO (w.alloc (.cells #[.int .i64 k, .int .i64 s, .int .u64 m0, .int .u64 m1, .int .u64 m2] 26)) w.heap.size ⟨k, s, m0, m1, m2⟩) := boxO_new w ⟨k, s, m0, m1, m2⟩ _
  go_enter Tryz.func49, Tryz.ntmps49
  go_wp2_with fail
  go_loopg [5] n (fun g vi wr => ∃ i : Nat, vi = .int .i64 ((i + 1 : Nat) : Int) ∧ i ≤ n ∧ n - i ≤ g ∧ Aside (Below w.heap.size w wr) ∧ Aside (BoxO wr w.heap.size ⟨k, s, m0, m1, m2⟩) ∧ Aside (∀ j, j < i → j < n - 1 → lt d[j + 1]! d[j]! = false))
  case atStart => exact ⟨0, by go_num, Nat.zero_le _, by omega, B0, K0, fun j h => by omega⟩
  case round =>
    obtain ⟨i, rfl, hin, hg, Bk, Kk, HJ⟩ := hrel
    by_cases hlt : i + 1 < n
    · have hltz : (i : Int) + 1 < (n : Int) := by omega
      obtain ⟨hd, hn⟩ := HD.out
      obtain ⟨blk, off, rfl, hbl, hc⟩ := hd (by omega)
      obtain ⟨⟨x1, x2⟩, hx⟩ : ∃ v : It, v = d[i + 1]! := ⟨_, rfl⟩
      obtain ⟨⟨y1, y2⟩, hy⟩ : ∃ v : It, v = d[i]! := ⟨_, rfl⟩
      obtain ⟨c1, c2⟩ := hc (i + 1) (by omega)
      obtain ⟨c3, c4⟩ := hc i (by omega)
      rw [← hx] at c1 c2
      rw [← hy] at c3 c4
      have q1 := cell_regrown ((Bk.out.cell (p := ⟨blk, off + (i + 1) * 2, none⟩) hbl).trans c1)
      have q2 := cell_regrown ((Bk.out.cell (p := ⟨blk, off + (i + 1) * 2 + 1, none⟩) hbl).trans c2)
      have q3 := cell_regrown ((Bk.out.cell (p := ⟨blk, off + i * 2, none⟩) hbl).trans c3)
      have q4 := cell_regrown ((Bk.out.cell (p := ⟨blk, off + i * 2 + 1, none⟩) hbl).trans c4)
      obtain ⟨_, k0, k1, k2, k3, k4⟩ := Kk.out
      have p0 := cell_regrown k0
      have p1 := cell_regrown k1
      have p2 := cell_regrown k2
      have p3 := cell_regrown k3
      have p4 := cell_regrown k4
      have hl : ∀ p : Regrown, Calls Tryz.prog 47 #[.agg #[.int .i64 k, .int .i64 s, .int .u64 m0, .int .u64 m1, .int .u64 m2], .agg #[.int .i64 x1, .int .i64 x2], .agg #[.int .i64 y1, .int .i64 y2]] (grow (redrawn wr p.d) p.os) fun e w'' => e = .returned (.bool (lt (x1, x2) (y1, y2))) ∧ ∃ p : Regrown, w'' = grow (redrawn wr p.d) p.os := fun p => Calls.regrown_of (LC (x1, x2) (y1, y2) _)
      obtain ⟨c, hcc⟩ : ∃ c, c = lt (x1, x2) (y1, y2) := ⟨_, rfl⟩
      rw [← hcc] at hl
      have HV : Aside (lt d[i + 1]! d[i]! = c) := by show lt _ _ = _; rw [← hx, ← hy, hcc]
      have mixed : Tryz.prog.follows .mixedOrders = true := by kernel_rfl
      dsimp only at q1 q2 q3 q4 p0 p1 p2 p3 p4
      have rI : IntKind.i64.wrap (i : Int) = (i : Int) := by rw [IntKind.wrap_i64]; omega
      have lI : (i : Int) < (n : Int) := by omega
      have rI1 : IntKind.i64.wrap ((i : Int) + 1) = (i : Int) + 1 := by rw [IntKind.wrap_i64]; omega
      have pI1 : (0 : Int) ≤ (i : Int) + 1 := by omega
      have eI1 : ((i : Int) + 1).toNat = i + 1 := by omega
      clear c1 c2 c3 c4 k0 k1 k2 k3 k4 hx hy hcc hbl hc hd hn
      cases c with
      | true =>
        go_wp2_with fail
        refine wp_region_quiet_below (by assumption) (by kernel_rfl) ?_
        repeat' (quiet_step (with_reducible exact hl _))
        all_goals
          refine wpQuiet_nil ?_
          intro _ hw'
          obtain ⟨⟨nq, osq⟩, hw''⟩ := hw'
          subst hw''
        have B2 : Aside _ := Below.next Bk.out (below_regrown wr nq osq)
        clear hl q1 q2 q3 q4 p0 p1 p2 p3 p4
        go_wp2_with fail
        go_ret
        exact ⟨congrArg (fun b => Ending.returned (Value.bool b)) (HR.out.trans (decide_eq_false fun h => by have := h i (by omega); rw [HV.out] at this; cases this)).symm, B2.out⟩
      | false =>
        go_wp2_with fail
        refine wp_region_quiet_below (by assumption) (by kernel_rfl) ?_
        repeat' (quiet_step (with_reducible exact hl _))
        all_goals
          refine wpQuiet_nil ?_
          intro _ hw'
          obtain ⟨⟨nq, osq⟩, hw''⟩ := hw'
          subst hw''
        have B2 : Aside _ := Below.next Bk.out (below_regrown wr nq osq)
        have K2 : Aside _ := Kk.out.keep (below_regrown wr nq osq)
        clear hl q1 q2 q3 q4 p0 p1 p2 p3 p4 Bk Kk mixed
        go_wp2_with fail
        go_roundg (n - (i + 1))
        case measure => omega
        case rel => exact ⟨i + 1, by go_num, by omega, by omega, B2, K2, fun j h1 h2 => by
          by_cases e : j = i
          · subst e; exact HV.out
          · exact HJ.out j (by omega) h2⟩
    · have hltz : ¬ (i : Int) + 1 < (n : Int) := by omega
      go_wp2_with fail
      go_ret
      exact ⟨congrArg (fun b => Ending.returned (Value.bool b)) (HR.out.trans (decide_eq_true fun j hj => HJ.out j (by omega) hj)).symm, Bk.out⟩

set_option maxHeartbeats 4000000 in
set_option maxRecDepth 1000000 in
theorem falls_calls (a : Option Addr) (cap n : Nat) (d : Array It) (o : Ordr) (w : World) (h : Rd2 w a d) (hn : d.size = n) (hsz : n < 4611686018427387904) (h0 : 0 ≤ o.shift) (h63 : o.shift < 64) :
    Calls Tryz.prog 117 #[.slice a n cap, vOrd o] w fun e w' => e = .returned (.bool (fallsB (ltC (cfO o)) d)) ∧ Below w.heap.size w w' := by
  have LC := fun x y W => sless_calls o h0 h63 x y W
  obtain ⟨R, hR⟩ : ∃ R, R = fallsB (ltC (cfO o)) d := ⟨_, rfl⟩
  rw [← hR]
  have HR : Aside (R = decide (∀ i, i < n - 1 → ltC (cfO o) d[i + 1]! d[i]! = true)) := by show R = _; rw [hR, ← hn]; rfl
  have HD : Aside (Rd2 w a d ∧ d.size = n) := ⟨h, hn⟩
  generalize ltC (cfO o) = lt at LC HR
  clear h hn h0 h63 hR
  obtain ⟨k, s, m0, m1, m2⟩ := o
  have B0 : Aside (Below w.heap.size w (w.alloc (.cells #[.int .i64 k, .int .i64 s, .int .u64 m0, .int .u64 m1, .int .u64 m2] 26))) := below_alloc _ _
  have K0 : Aside (BoxO (w.alloc (.cells #[.int .i64 k, .int .i64 s, .int .u64 m0, .int .u64 m1, .int .u64 m2] 26)) w.heap.size ⟨k, s, m0, m1, m2⟩) := boxO_new w ⟨k, s, m0, m1, m2⟩ _
  go_enter Tryz.func117, Tryz.ntmps117
  go_wp2_with fail
  go_loopg [5] n (fun g vi wr => ∃ i : Nat, vi = .int .i64 ((i + 1 : Nat) : Int) ∧ i ≤ n ∧ n - i ≤ g ∧ Aside (Below w.heap.size w wr) ∧ Aside (BoxO wr w.heap.size ⟨k, s, m0, m1, m2⟩) ∧ Aside (∀ j, j < i → j < n - 1 → lt d[j + 1]! d[j]! = true))
  case atStart => exact ⟨0, by go_num, Nat.zero_le _, by omega, B0, K0, fun j h => by omega⟩
  case round =>
    obtain ⟨i, rfl, hin, hg, Bk, Kk, HJ⟩ := hrel
    by_cases hlt : i + 1 < n
    · have hltz : (i : Int) + 1 < (n : Int) := by omega
      obtain ⟨hd, hn⟩ := HD.out
      obtain ⟨blk, off, rfl, hbl, hc⟩ := hd (by omega)
      obtain ⟨⟨x1, x2⟩, hx⟩ : ∃ v : It, v = d[i + 1]! := ⟨_, rfl⟩
      obtain ⟨⟨y1, y2⟩, hy⟩ : ∃ v : It, v = d[i]! := ⟨_, rfl⟩
      obtain ⟨c1, c2⟩ := hc (i + 1) (by omega)
      obtain ⟨c3, c4⟩ := hc i (by omega)
      rw [← hx] at c1 c2
      rw [← hy] at c3 c4
      have q1 := cell_regrown ((Bk.out.cell (p := ⟨blk, off + (i + 1) * 2, none⟩) hbl).trans c1)
      have q2 := cell_regrown ((Bk.out.cell (p := ⟨blk, off + (i + 1) * 2 + 1, none⟩) hbl).trans c2)
      have q3 := cell_regrown ((Bk.out.cell (p := ⟨blk, off + i * 2, none⟩) hbl).trans c3)
      have q4 := cell_regrown ((Bk.out.cell (p := ⟨blk, off + i * 2 + 1, none⟩) hbl).trans c4)
      obtain ⟨_, k0, k1, k2, k3, k4⟩ := Kk.out
      have p0 := cell_regrown k0
      have p1 := cell_regrown k1
      have p2 := cell_regrown k2
      have p3 := cell_regrown k3
      have p4 := cell_regrown k4
      have hl : ∀ p : Regrown, Calls Tryz.prog 47 #[.agg #[.int .i64 k, .int .i64 s, .int .u64 m0, .int .u64 m1, .int .u64 m2], .agg #[.int .i64 x1, .int .i64 x2], .agg #[.int .i64 y1, .int .i64 y2]] (grow (redrawn wr p.d) p.os) fun e w'' => e = .returned (.bool (lt (x1, x2) (y1, y2))) ∧ ∃ p : Regrown, w'' = grow (redrawn wr p.d) p.os := fun p => Calls.regrown_of (LC (x1, x2) (y1, y2) _)
      obtain ⟨c, hcc⟩ : ∃ c, c = lt (x1, x2) (y1, y2) := ⟨_, rfl⟩
      rw [← hcc] at hl
      have HV : Aside (lt d[i + 1]! d[i]! = c) := by show lt _ _ = _; rw [← hx, ← hy, hcc]
      have mixed : Tryz.prog.follows .mixedOrders = true := by kernel_rfl
      dsimp only at q1 q2 q3 q4 p0 p1 p2 p3 p4
      have rI : IntKind.i64.wrap (i : Int) = (i : Int) := by rw [IntKind.wrap_i64]; omega
      have lI : (i : Int) < (n : Int) := by omega
      have rI1 : IntKind.i64.wrap ((i : Int) + 1) = (i : Int) + 1 := by rw [IntKind.wrap_i64]; omega
      have pI1 : (0 : Int) ≤ (i : Int) + 1 := by omega
      have eI1 : ((i : Int) + 1).toNat = i + 1 := by omega
      clear c1 c2 c3 c4 k0 k1 k2 k3 k4 hx hy hcc hbl hc hd hn
      cases c with
      | false =>
        go_wp2_with fail
        refine wp_region_quiet_below (by assumption) (by kernel_rfl) ?_
        repeat' (quiet_step (with_reducible exact hl _))
        all_goals
          refine wpQuiet_nil ?_
          intro _ hw'
          obtain ⟨⟨nq, osq⟩, hw''⟩ := hw'
          subst hw''
        have B2 : Aside _ := Below.next Bk.out (below_regrown wr nq osq)
        clear hl q1 q2 q3 q4 p0 p1 p2 p3 p4
        go_wp2_with fail
        go_ret
        exact ⟨congrArg (fun b => Ending.returned (Value.bool b)) (HR.out.trans (decide_eq_false fun h => by have := h i (by omega); rw [HV.out] at this; cases this)).symm, B2.out⟩
      | true =>
        go_wp2_with fail
        refine wp_region_quiet_below (by assumption) (by kernel_rfl) ?_
        repeat' (quiet_step (with_reducible exact hl _))
        all_goals
          refine wpQuiet_nil ?_
          intro _ hw'
          obtain ⟨⟨nq, osq⟩, hw''⟩ := hw'
          subst hw''
        have B2 : Aside _ := Below.next Bk.out (below_regrown wr nq osq)
        have K2 : Aside _ := Kk.out.keep (below_regrown wr nq osq)
        clear hl q1 q2 q3 q4 p0 p1 p2 p3 p4 Bk Kk mixed
        go_wp2_with fail
        go_roundg (n - (i + 1))
        case measure => omega
        case rel => exact ⟨i + 1, by go_num, by omega, by omega, B2, K2, fun j h1 h2 => by
          by_cases e : j = i
          · subst e; exact HV.out
          · exact HJ.out j (by omega) h2⟩
    · have hltz : ¬ (i : Int) + 1 < (n : Int) := by omega
      go_wp2_with fail
      go_ret
      exact ⟨congrArg (fun b => Ending.returned (Value.bool b)) (HR.out.trans (decide_eq_true fun j hj => HJ.out j (by omega) hj)).symm, Bk.out⟩

end Go.Proofs.YtglgmkikegbchaaGreat
