/- spec.Numbers (printed by gen/numbers.py). -/
import Derived.Test.YtglgmkikegbchaaGreatGBS
namespace Go.Proofs.YtglgmkikegbchaaGreat
open Go.RowKit Go.Sort Go.Maps

set_option maxHeartbeats 8000000 in
set_option maxRecDepth 1000000 in
theorem numbers_1 (m : Int) (a : Option Addr) (cap : Nat) (x y z : Int) (w : World) (h : RdN w a #[x, y, z]) (hx : in2k x) (hy : in2k y) (hz : in2k z) :
    Calls Tryz.prog 26 #[.int .i64 1, .int .i64 m, .slice a 3 cap] w fun e w' => e = .returned (.tuple #[.int .i64 (z), .int .i64 (z + y), .bool (decide (x < y) && decide (z + y ≤ m))]) ∧ Below w.heap.size w w' := by
  obtain ⟨x0, x1⟩ := hx
  obtain ⟨y0, y1⟩ := hy
  obtain ⟨z0, z1⟩ := hz
  obtain ⟨blk, off, rfl, hl, hc⟩ := h (by simp)
  have c0 := hc 0 (by simp)
  have c1 := hc 1 (by simp)
  have c2 := hc 2 (by simp)
  simp at c0 c1 c2
  have hzx : ¬ x < 0 := by omega
  have hyx : ¬ 2000 < x := by omega
  have hzy : ¬ y < 0 := by omega
  have hyy : ¬ 2000 < y := by omega
  have hzz : ¬ z < 0 := by omega
  have hyz : ¬ 2000 < z := by omega
  have HC : Aside (blk < w.heap.size ∧ w.cell? ⟨blk, off, none⟩ = some (.int .i64 x) ∧ w.cell? ⟨blk, off + 1, none⟩ = some (.int .i64 y) ∧ w.cell? ⟨blk, off + 2, none⟩ = some (.int .i64 z)) := ⟨hl, c0, c1, c2⟩
  clear hc h hl c0 c1 c2
  have s0 : IntKind.i64.wrap (z + y) = z + y := by rw [IntKind.wrap_i64]; omega
  clear x0 x1 y0 y1 z0 z1
  have hmm := @run_makeMap Tryz.prog
  have hst : Aside (MapSt w (w.alloc (.map #[] 0)) 0 (.map [])) := mapSt_made w
  by_cases k0 : x < y
  · have d0 : decide (x < y) = true := decide_eq_true k0
    rw [d0]
    clear k0
    simp only [Bool.true_and]
    go_enter Tryz.func26, Tryz.ntmps26
    go_wp2_with (first
      | (refine wpList_insert_st hst rfl _ _ _ rfl rfl (by decide) (by decide) (by decide) ?_; clear hst; intro w1 hst)
      | (at_lookup; refine wpList_lookup_own_int _ rfl _ _ 52 rfl 3 3 .i64 lawI Tryz.underlying52 Tryz.underlying3 (zeroI _) w.heap.size _ _ rfl hst.out.1 _ _ rfl (keyOf_int_mk Tryz.underlying3 (by decide)) ?_; intro c hat _; obtain rfl : c = 3 := want_c hat (by rfl); clear hat)
      | fail)
    obtain ⟨hl, c0, c1, c2⟩ := HC.out
    have q0 := (hst.out.2.cell (p := ⟨blk, off, none⟩) (by exact hl)).trans c0
    have q1 := (hst.out.2.cell (p := ⟨blk, off + 1, none⟩) (by exact hl)).trans c1
    have q2 := (hst.out.2.cell (p := ⟨blk, off + 2, none⟩) (by exact hl)).trans c2
    have B : Aside (Below w.heap.size w w1) := hst.out.2
    clear hst HC hl c0 c1 c2
    refine wp_loop_rounds 4 ?_
    rw [rounds_succ]
    go_wp2_with fail
    rw [rounds_succ]
    go_wp2_with fail
    rw [rounds_succ]
    go_wp2_with fail
    rw [rounds_succ]
    go_wp2_with fail
    go_quiet (fail)
    go_wp2_with fail
    refine bodyPost_ret (results_tmp3 rfl _ _ _) rfl ?_
    exact ⟨rfl, below_drewN' B.out _⟩
  · have d0 : decide (x < y) = false := decide_eq_false k0
    rw [d0]
    clear k0
    simp only [Bool.false_and]
    go_enter Tryz.func26, Tryz.ntmps26
    go_wp2_with (first
      | (refine wpList_insert_st hst rfl _ _ _ rfl rfl (by decide) (by decide) (by decide) ?_; clear hst; intro w1 hst)
      | (at_lookup; refine wpList_lookup_own_int _ rfl _ _ 52 rfl 3 3 .i64 lawI Tryz.underlying52 Tryz.underlying3 (zeroI _) w.heap.size _ _ rfl hst.out.1 _ _ rfl (keyOf_int_mk Tryz.underlying3 (by decide)) ?_; intro c hat _; obtain rfl : c = 3 := want_c hat (by rfl); clear hat)
      | fail)
    obtain ⟨hl, c0, c1, c2⟩ := HC.out
    have q0 := (hst.out.2.cell (p := ⟨blk, off, none⟩) (by exact hl)).trans c0
    have q1 := (hst.out.2.cell (p := ⟨blk, off + 1, none⟩) (by exact hl)).trans c1
    have q2 := (hst.out.2.cell (p := ⟨blk, off + 2, none⟩) (by exact hl)).trans c2
    have B : Aside (Below w.heap.size w w1) := hst.out.2
    clear hst HC hl c0 c1 c2
    refine wp_loop_rounds 4 ?_
    rw [rounds_succ]
    go_wp2_with fail
    rw [rounds_succ]
    go_wp2_with fail
    rw [rounds_succ]
    go_wp2_with fail
    rw [rounds_succ]
    go_wp2_with fail
    go_quiet (fail)
    go_wp2_with fail
    refine bodyPost_ret (results_tmp3 rfl _ _ _) rfl ?_
    exact ⟨rfl, below_drewN' B.out _⟩

set_option maxHeartbeats 8000000 in
set_option maxRecDepth 1000000 in
theorem numbers_3 (m : Int) (a : Option Addr) (cap : Nat) (x y z : Int) (w : World) (h : RdN w a #[x, y, z]) (hx : in2k x) (hy : in2k y) (hz : in2k z) :
    Calls Tryz.prog 26 #[.int .i64 3, .int .i64 m, .slice a 3 cap] w fun e w' => e = .returned (.tuple #[.int .i64 (x), .int .i64 (y), .bool ((decide (0 ≤ x) && decide (x ≤ y) && decide (y ≤ m)) && decide (z ≤ 64))]) ∧ Below w.heap.size w w' := by
  obtain ⟨x0, x1⟩ := hx
  obtain ⟨y0, y1⟩ := hy
  obtain ⟨z0, z1⟩ := hz
  obtain ⟨blk, off, rfl, hl, hc⟩ := h (by simp)
  have c0 := hc 0 (by simp)
  have c1 := hc 1 (by simp)
  have c2 := hc 2 (by simp)
  simp at c0 c1 c2
  have hzx : ¬ x < 0 := by omega
  have hyx : ¬ 2000 < x := by omega
  have hzy : ¬ y < 0 := by omega
  have hyy : ¬ 2000 < y := by omega
  have hzz : ¬ z < 0 := by omega
  have hyz : ¬ 2000 < z := by omega
  have HC : Aside (blk < w.heap.size ∧ w.cell? ⟨blk, off, none⟩ = some (.int .i64 x) ∧ w.cell? ⟨blk, off + 1, none⟩ = some (.int .i64 y) ∧ w.cell? ⟨blk, off + 2, none⟩ = some (.int .i64 z)) := ⟨hl, c0, c1, c2⟩
  clear hc h hl c0 c1 c2
  have hmm := @run_makeMap Tryz.prog
  have hst : Aside (MapSt w (w.alloc (.map #[] 0)) 0 (.map [])) := mapSt_made w
  obtain ⟨b, hb⟩ : ∃ b, b = (decide (0 ≤ x) && decide (x ≤ y) && decide (y ≤ m)) := ⟨_, rfl⟩
  have hwi := within_calls x y m
  rw [← hb] at hwi ⊢
  clear hb x0 x1 y0 y1 z0 z1
  cases b with
  | false =>
    simp only [Bool.false_and]
    go_enter Tryz.func26, Tryz.ntmps26
    go_wp2_with (first
      | (refine wpList_insert_st hst rfl _ _ _ rfl rfl (by decide) (by decide) (by decide) ?_; clear hst; intro w1 hst)
      | (at_lookup; refine wpList_lookup_own_int _ rfl _ _ 52 rfl 3 3 .i64 lawI Tryz.underlying52 Tryz.underlying3 (zeroI _) w.heap.size _ _ rfl hst.out.1 _ _ rfl (keyOf_int_mk Tryz.underlying3 (by decide)) ?_; intro c hat _; obtain rfl : c = 3 := want_c hat (by rfl); clear hat)
      | fail)
    obtain ⟨hl, c0, c1, c2⟩ := HC.out
    have q0 := (hst.out.2.cell (p := ⟨blk, off, none⟩) (by exact hl)).trans c0
    have q1 := (hst.out.2.cell (p := ⟨blk, off + 1, none⟩) (by exact hl)).trans c1
    have q2 := (hst.out.2.cell (p := ⟨blk, off + 2, none⟩) (by exact hl)).trans c2
    have B : Aside (Below w.heap.size w w1) := hst.out.2
    clear hst HC hl c0 c1 c2
    refine wp_loop_rounds 4 ?_
    rw [rounds_succ]
    go_wp2_with fail
    rw [rounds_succ]
    go_wp2_with fail
    rw [rounds_succ]
    go_wp2_with fail
    rw [rounds_succ]
    go_wp2_with fail
    go_quiet (first | (go_at_call 37; refine Calls.quiet_of_same (hwi _)))
    go_wp2_with fail
    refine bodyPost_ret (results_tmp3 rfl _ _ _) rfl ?_
    exact ⟨rfl, below_drewN' B.out _⟩
  | true =>
    simp only [Bool.true_and]
    go_enter Tryz.func26, Tryz.ntmps26
    go_wp2_with (first
      | (refine wpList_insert_st hst rfl _ _ _ rfl rfl (by decide) (by decide) (by decide) ?_; clear hst; intro w1 hst)
      | (at_lookup; refine wpList_lookup_own_int _ rfl _ _ 52 rfl 3 3 .i64 lawI Tryz.underlying52 Tryz.underlying3 (zeroI _) w.heap.size _ _ rfl hst.out.1 _ _ rfl (keyOf_int_mk Tryz.underlying3 (by decide)) ?_; intro c hat _; obtain rfl : c = 3 := want_c hat (by rfl); clear hat)
      | fail)
    obtain ⟨hl, c0, c1, c2⟩ := HC.out
    have q0 := (hst.out.2.cell (p := ⟨blk, off, none⟩) (by exact hl)).trans c0
    have q1 := (hst.out.2.cell (p := ⟨blk, off + 1, none⟩) (by exact hl)).trans c1
    have q2 := (hst.out.2.cell (p := ⟨blk, off + 2, none⟩) (by exact hl)).trans c2
    have B : Aside (Below w.heap.size w w1) := hst.out.2
    clear hst HC hl c0 c1 c2
    refine wp_loop_rounds 4 ?_
    rw [rounds_succ]
    go_wp2_with fail
    rw [rounds_succ]
    go_wp2_with fail
    rw [rounds_succ]
    go_wp2_with fail
    rw [rounds_succ]
    go_wp2_with fail
    go_quiet (first | (go_at_call 37; refine Calls.quiet_of_same (hwi _)))
    go_wp2_with fail
    refine bodyPost_ret (results_tmp3 rfl _ _ _) rfl ?_
    exact ⟨rfl, below_drewN' B.out _⟩

set_option maxHeartbeats 8000000 in
set_option maxRecDepth 1000000 in
theorem numbers_4 (m : Int) (a : Option Addr) (cap : Nat) (x y z : Int) (w : World) (h : RdN w a #[x, y, z]) (hx : in2k x) (hy : in2k y) (hz : in2k z) :
    Calls Tryz.prog 26 #[.int .i64 4, .int .i64 m, .slice a 3 cap] w fun e w' => e = .returned (.tuple #[.int .i64 (x), .int .i64 (y), .bool ((decide (0 ≤ x) && decide (x ≤ y) && decide (y ≤ m)) && decide (x ≤ z) && decide (z < y))]) ∧ Below w.heap.size w w' := by
  obtain ⟨x0, x1⟩ := hx
  obtain ⟨y0, y1⟩ := hy
  obtain ⟨z0, z1⟩ := hz
  obtain ⟨blk, off, rfl, hl, hc⟩ := h (by simp)
  have c0 := hc 0 (by simp)
  have c1 := hc 1 (by simp)
  have c2 := hc 2 (by simp)
  simp at c0 c1 c2
  have hzx : ¬ x < 0 := by omega
  have hyx : ¬ 2000 < x := by omega
  have hzy : ¬ y < 0 := by omega
  have hyy : ¬ 2000 < y := by omega
  have hzz : ¬ z < 0 := by omega
  have hyz : ¬ 2000 < z := by omega
  have HC : Aside (blk < w.heap.size ∧ w.cell? ⟨blk, off, none⟩ = some (.int .i64 x) ∧ w.cell? ⟨blk, off + 1, none⟩ = some (.int .i64 y) ∧ w.cell? ⟨blk, off + 2, none⟩ = some (.int .i64 z)) := ⟨hl, c0, c1, c2⟩
  clear hc h hl c0 c1 c2
  have hmm := @run_makeMap Tryz.prog
  have hst : Aside (MapSt w (w.alloc (.map #[] 0)) 0 (.map [])) := mapSt_made w
  obtain ⟨b, hb⟩ : ∃ b, b = (decide (0 ≤ x) && decide (x ≤ y) && decide (y ≤ m)) := ⟨_, rfl⟩
  have hwi := within_calls x y m
  rw [← hb] at hwi ⊢
  clear hb x0 x1 y0 y1 z0 z1
  cases b with
  | false =>
    simp only [Bool.false_and]
    go_enter Tryz.func26, Tryz.ntmps26
    go_wp2_with (first
      | (refine wpList_insert_st hst rfl _ _ _ rfl rfl (by decide) (by decide) (by decide) ?_; clear hst; intro w1 hst)
      | (at_lookup; refine wpList_lookup_own_int _ rfl _ _ 52 rfl 3 3 .i64 lawI Tryz.underlying52 Tryz.underlying3 (zeroI _) w.heap.size _ _ rfl hst.out.1 _ _ rfl (keyOf_int_mk Tryz.underlying3 (by decide)) ?_; intro c hat _; obtain rfl : c = 3 := want_c hat (by rfl); clear hat)
      | fail)
    obtain ⟨hl, c0, c1, c2⟩ := HC.out
    have q0 := (hst.out.2.cell (p := ⟨blk, off, none⟩) (by exact hl)).trans c0
    have q1 := (hst.out.2.cell (p := ⟨blk, off + 1, none⟩) (by exact hl)).trans c1
    have q2 := (hst.out.2.cell (p := ⟨blk, off + 2, none⟩) (by exact hl)).trans c2
    have B : Aside (Below w.heap.size w w1) := hst.out.2
    clear hst HC hl c0 c1 c2
    refine wp_loop_rounds 4 ?_
    rw [rounds_succ]
    go_wp2_with fail
    rw [rounds_succ]
    go_wp2_with fail
    rw [rounds_succ]
    go_wp2_with fail
    rw [rounds_succ]
    go_wp2_with fail
    go_quiet (first | (go_at_call 37; refine Calls.quiet_of_same (hwi _)))
    go_wp2_with fail
    refine bodyPost_ret (results_tmp3 rfl _ _ _) rfl ?_
    exact ⟨rfl, below_drewN' B.out _⟩
  | true =>
    simp only [Bool.true_and]
    by_cases k1 : x ≤ z
    · have d1 : decide (x ≤ z) = true := decide_eq_true k1
      rw [d1]
      clear k1
      simp only [Bool.true_and]
      go_enter Tryz.func26, Tryz.ntmps26
      go_wp2_with (first
        | (refine wpList_insert_st hst rfl _ _ _ rfl rfl (by decide) (by decide) (by decide) ?_; clear hst; intro w1 hst)
        | (at_lookup; refine wpList_lookup_own_int _ rfl _ _ 52 rfl 3 3 .i64 lawI Tryz.underlying52 Tryz.underlying3 (zeroI _) w.heap.size _ _ rfl hst.out.1 _ _ rfl (keyOf_int_mk Tryz.underlying3 (by decide)) ?_; intro c hat _; obtain rfl : c = 3 := want_c hat (by rfl); clear hat)
        | fail)
      obtain ⟨hl, c0, c1, c2⟩ := HC.out
      have q0 := (hst.out.2.cell (p := ⟨blk, off, none⟩) (by exact hl)).trans c0
      have q1 := (hst.out.2.cell (p := ⟨blk, off + 1, none⟩) (by exact hl)).trans c1
      have q2 := (hst.out.2.cell (p := ⟨blk, off + 2, none⟩) (by exact hl)).trans c2
      have B : Aside (Below w.heap.size w w1) := hst.out.2
      clear hst HC hl c0 c1 c2
      refine wp_loop_rounds 4 ?_
      rw [rounds_succ]
      go_wp2_with fail
      rw [rounds_succ]
      go_wp2_with fail
      rw [rounds_succ]
      go_wp2_with fail
      rw [rounds_succ]
      go_wp2_with fail
      go_quiet (first | (go_at_call 37; refine Calls.quiet_of_same (hwi _)))
      go_wp2_with fail
      refine bodyPost_ret (results_tmp3 rfl _ _ _) rfl ?_
      exact ⟨rfl, below_drewN' B.out _⟩
    · have d1 : decide (x ≤ z) = false := decide_eq_false k1
      rw [d1]
      clear k1
      simp only [Bool.false_and]
      go_enter Tryz.func26, Tryz.ntmps26
      go_wp2_with (first
        | (refine wpList_insert_st hst rfl _ _ _ rfl rfl (by decide) (by decide) (by decide) ?_; clear hst; intro w1 hst)
        | (at_lookup; refine wpList_lookup_own_int _ rfl _ _ 52 rfl 3 3 .i64 lawI Tryz.underlying52 Tryz.underlying3 (zeroI _) w.heap.size _ _ rfl hst.out.1 _ _ rfl (keyOf_int_mk Tryz.underlying3 (by decide)) ?_; intro c hat _; obtain rfl : c = 3 := want_c hat (by rfl); clear hat)
        | fail)
      obtain ⟨hl, c0, c1, c2⟩ := HC.out
      have q0 := (hst.out.2.cell (p := ⟨blk, off, none⟩) (by exact hl)).trans c0
      have q1 := (hst.out.2.cell (p := ⟨blk, off + 1, none⟩) (by exact hl)).trans c1
      have q2 := (hst.out.2.cell (p := ⟨blk, off + 2, none⟩) (by exact hl)).trans c2
      have B : Aside (Below w.heap.size w w1) := hst.out.2
      clear hst HC hl c0 c1 c2
      refine wp_loop_rounds 4 ?_
      rw [rounds_succ]
      go_wp2_with fail
      rw [rounds_succ]
      go_wp2_with fail
      rw [rounds_succ]
      go_wp2_with fail
      rw [rounds_succ]
      go_wp2_with fail
      go_quiet (first | (go_at_call 37; refine Calls.quiet_of_same (hwi _)))
      go_wp2_with fail
      refine bodyPost_ret (results_tmp3 rfl _ _ _) rfl ?_
      exact ⟨rfl, below_drewN' B.out _⟩
end Go.Proofs.YtglgmkikegbchaaGreat
