/- spec.Numbers (printed by gen/numbers.py). -/
import Derived.Test.YtglgmkikegbchaaGreatGBS
namespace Go.Proofs.YtglgmkikegbchaaGreat
open Go.RowKit Go.Sort Go.Maps

set_option maxHeartbeats 8000000 in
set_option maxRecDepth 1000000 in
theorem numbers_15 (m : Int) (a : Option Addr) (cap : Nat) (x y z : Int) (w : World) (h : RdN w a #[x, y, z]) (hx : in2k x) (hy : in2k y) (hz : in2k z) :
    Calls Tryz.prog 26 #[.int .i64 15, .int .i64 m, .slice a 3 cap] w fun e w' => e = .returned (.tuple #[.int .i64 (x), .int .i64 (z), .bool (decide (x < y) && decide (y < z) && decide (z ≤ m))]) ∧ Below w.heap.size w w' := by
  obtain ⟨x0, x1⟩ := hx
  obtain ⟨y0, y1⟩ := hy
  obtain ⟨z0, z1⟩ := hz
  obtain ⟨blk, off, rfl, hl, hc⟩ := h (by simp)
  have c0 := hc 0 (by simp)
  have c1 := hc 1 (by simp)
  have c2 := hc 2 (by simp)
  simp at c0 c1 c2
  have hzx : ¬ x < 0 := by omega
  have hyx : ¬ 2000 < x := by omega
  have hzy : ¬ y < 0 := by omega
  have hyy : ¬ 2000 < y := by omega
  have hzz : ¬ z < 0 := by omega
  have hyz : ¬ 2000 < z := by omega
  have HC : Aside (blk < w.heap.size ∧ w.cell? ⟨blk, off, none⟩ = some (.int .i64 x) ∧ w.cell? ⟨blk, off + 1, none⟩ = some (.int .i64 y) ∧ w.cell? ⟨blk, off + 2, none⟩ = some (.int .i64 z)) := ⟨hl, c0, c1, c2⟩
  clear hc h hl c0 c1 c2
  clear x0 x1 y0 y1 z0 z1
  have hmm := @run_makeMap Tryz.prog
  have hst : Aside (MapSt w (w.alloc (.map #[] 0)) 0 (.map [])) := mapSt_made w
  by_cases k0 : x < y
  · have d0 : decide (x < y) = true := decide_eq_true k0
    rw [d0]
    clear k0
    simp only [Bool.true_and]
    by_cases k1 : y < z
    · have d1 : decide (y < z) = true := decide_eq_true k1
      rw [d1]
      clear k1
      simp only [Bool.true_and]
      go_enter Tryz.func26, Tryz.ntmps26
      go_wp2_with (first
        | (refine wpList_insert_st hst rfl _ _ _ rfl rfl (by decide) (by decide) (by decide) ?_; clear hst; intro w1 hst)
        | (at_lookup; refine wpList_lookup_own_int _ rfl _ _ 52 rfl 3 3 .i64 lawI Tryz.underlying52 Tryz.underlying3 (zeroI _) w.heap.size _ _ rfl hst.out.1 _ _ rfl (keyOf_int_mk Tryz.underlying3 (by decide)) ?_; intro c hat _; obtain rfl : c = 3 := want_c hat (by rfl); clear hat)
        | fail)
      obtain ⟨hl, c0, c1, c2⟩ := HC.out
      have q0 := (hst.out.2.cell (p := ⟨blk, off, none⟩) (by exact hl)).trans c0
      have q1 := (hst.out.2.cell (p := ⟨blk, off + 1, none⟩) (by exact hl)).trans c1
      have q2 := (hst.out.2.cell (p := ⟨blk, off + 2, none⟩) (by exact hl)).trans c2
      have B : Aside (Below w.heap.size w w1) := hst.out.2
      clear hst HC hl c0 c1 c2
      refine wp_loop_rounds 4 ?_
      rw [rounds_succ]
      go_wp2_with fail
      rw [rounds_succ]
      go_wp2_with fail
      rw [rounds_succ]
      go_wp2_with fail
      rw [rounds_succ]
      go_wp2_with fail
      go_quiet (fail)
      go_wp2_with fail
      refine bodyPost_ret (results_tmp3 rfl _ _ _) rfl ?_
      exact ⟨rfl, below_drewN' B.out _⟩
    · have d1 : decide (y < z) = false := decide_eq_false k1
      rw [d1]
      clear k1
      simp only [Bool.false_and]
      go_enter Tryz.func26, Tryz.ntmps26
      go_wp2_with (first
        | (refine wpList_insert_st hst rfl _ _ _ rfl rfl (by decide) (by decide) (by decide) ?_; clear hst; intro w1 hst)
        | (at_lookup; refine wpList_lookup_own_int _ rfl _ _ 52 rfl 3 3 .i64 lawI Tryz.underlying52 Tryz.underlying3 (zeroI _) w.heap.size _ _ rfl hst.out.1 _ _ rfl (keyOf_int_mk Tryz.underlying3 (by decide)) ?_; intro c hat _; obtain rfl : c = 3 := want_c hat (by rfl); clear hat)
        | fail)
      obtain ⟨hl, c0, c1, c2⟩ := HC.out
      have q0 := (hst.out.2.cell (p := ⟨blk, off, none⟩) (by exact hl)).trans c0
      have q1 := (hst.out.2.cell (p := ⟨blk, off + 1, none⟩) (by exact hl)).trans c1
      have q2 := (hst.out.2.cell (p := ⟨blk, off + 2, none⟩) (by exact hl)).trans c2
      have B : Aside (Below w.heap.size w w1) := hst.out.2
      clear hst HC hl c0 c1 c2
      refine wp_loop_rounds 4 ?_
      rw [rounds_succ]
      go_wp2_with fail
      rw [rounds_succ]
      go_wp2_with fail
      rw [rounds_succ]
      go_wp2_with fail
      rw [rounds_succ]
      go_wp2_with fail
      go_quiet (fail)
      go_wp2_with fail
      refine bodyPost_ret (results_tmp3 rfl _ _ _) rfl ?_
      exact ⟨rfl, below_drewN' B.out _⟩
  · have d0 : decide (x < y) = false := decide_eq_false k0
    rw [d0]
    clear k0
    simp only [Bool.false_and]
    go_enter Tryz.func26, Tryz.ntmps26
    go_wp2_with (first
      | (refine wpList_insert_st hst rfl _ _ _ rfl rfl (by decide) (by decide) (by decide) ?_; clear hst; intro w1 hst)
      | (at_lookup; refine wpList_lookup_own_int _ rfl _ _ 52 rfl 3 3 .i64 lawI Tryz.underlying52 Tryz.underlying3 (zeroI _) w.heap.size _ _ rfl hst.out.1 _ _ rfl (keyOf_int_mk Tryz.underlying3 (by decide)) ?_; intro c hat _; obtain rfl : c = 3 := want_c hat (by rfl); clear hat)
      | fail)
    obtain ⟨hl, c0, c1, c2⟩ := HC.out
    have q0 := (hst.out.2.cell (p := ⟨blk, off, none⟩) (by exact hl)).trans c0
    have q1 := (hst.out.2.cell (p := ⟨blk, off + 1, none⟩) (by exact hl)).trans c1
    have q2 := (hst.out.2.cell (p := ⟨blk, off + 2, none⟩) (by exact hl)).trans c2
    have B : Aside (Below w.heap.size w w1) := hst.out.2
    clear hst HC hl c0 c1 c2
    refine wp_loop_rounds 4 ?_
    rw [rounds_succ]
    go_wp2_with fail
    rw [rounds_succ]
    go_wp2_with fail
    rw [rounds_succ]
    go_wp2_with fail
    rw [rounds_succ]
    go_wp2_with fail
    go_quiet (fail)
    go_wp2_with fail
    refine bodyPost_ret (results_tmp3 rfl _ _ _) rfl ?_
    exact ⟨rfl, below_drewN' B.out _⟩

set_option maxHeartbeats 8000000 in
set_option maxRecDepth 1000000 in
theorem numbers_16 (m : Int) (a : Option Addr) (cap : Nat) (x y z : Int) (w : World) (h : RdN w a #[x, y, z]) (hx : in2k x) (hy : in2k y) (hz : in2k z) :
    Calls Tryz.prog 26 #[.int .i64 16, .int .i64 m, .slice a 3 cap] w fun e w' => e = .returned (.tuple #[.int .i64 (x), .int .i64 (z), .bool (decide (x < y) && decide (y < z) && decide (z ≤ m))]) ∧ Below w.heap.size w w' := by
  obtain ⟨x0, x1⟩ := hx
  obtain ⟨y0, y1⟩ := hy
  obtain ⟨z0, z1⟩ := hz
  obtain ⟨blk, off, rfl, hl, hc⟩ := h (by simp)
  have c0 := hc 0 (by simp)
  have c1 := hc 1 (by simp)
  have c2 := hc 2 (by simp)
  simp at c0 c1 c2
  have hzx : ¬ x < 0 := by omega
  have hyx : ¬ 2000 < x := by omega
  have hzy : ¬ y < 0 := by omega
  have hyy : ¬ 2000 < y := by omega
  have hzz : ¬ z < 0 := by omega
  have hyz : ¬ 2000 < z := by omega
  have HC : Aside (blk < w.heap.size ∧ w.cell? ⟨blk, off, none⟩ = some (.int .i64 x) ∧ w.cell? ⟨blk, off + 1, none⟩ = some (.int .i64 y) ∧ w.cell? ⟨blk, off + 2, none⟩ = some (.int .i64 z)) := ⟨hl, c0, c1, c2⟩
  clear hc h hl c0 c1 c2
  clear x0 x1 y0 y1 z0 z1
  have hmm := @run_makeMap Tryz.prog
  have hst : Aside (MapSt w (w.alloc (.map #[] 0)) 0 (.map [])) := mapSt_made w
  by_cases k0 : x < y
  · have d0 : decide (x < y) = true := decide_eq_true k0
    rw [d0]
    clear k0
    simp only [Bool.true_and]
    by_cases k1 : y < z
    · have d1 : decide (y < z) = true := decide_eq_true k1
      rw [d1]
      clear k1
      simp only [Bool.true_and]
      go_enter Tryz.func26, Tryz.ntmps26
      go_wp2_with (first
        | (refine wpList_insert_st hst rfl _ _ _ rfl rfl (by decide) (by decide) (by decide) ?_; clear hst; intro w1 hst)
        | (at_lookup; refine wpList_lookup_own_int _ rfl _ _ 52 rfl 3 3 .i64 lawI Tryz.underlying52 Tryz.underlying3 (zeroI _) w.heap.size _ _ rfl hst.out.1 _ _ rfl (keyOf_int_mk Tryz.underlying3 (by decide)) ?_; intro c hat _; obtain rfl : c = 3 := want_c hat (by rfl); clear hat)
        | fail)
      obtain ⟨hl, c0, c1, c2⟩ := HC.out
      have q0 := (hst.out.2.cell (p := ⟨blk, off, none⟩) (by exact hl)).trans c0
      have q1 := (hst.out.2.cell (p := ⟨blk, off + 1, none⟩) (by exact hl)).trans c1
      have q2 := (hst.out.2.cell (p := ⟨blk, off + 2, none⟩) (by exact hl)).trans c2
      have B : Aside (Below w.heap.size w w1) := hst.out.2
      clear hst HC hl c0 c1 c2
      refine wp_loop_rounds 4 ?_
      rw [rounds_succ]
      go_wp2_with fail
      rw [rounds_succ]
      go_wp2_with fail
      rw [rounds_succ]
      go_wp2_with fail
      rw [rounds_succ]
      go_wp2_with fail
      go_quiet (fail)
      go_wp2_with fail
      refine bodyPost_ret (results_tmp3 rfl _ _ _) rfl ?_
      exact ⟨rfl, below_drewN' B.out _⟩
    · have d1 : decide (y < z) = false := decide_eq_false k1
      rw [d1]
      clear k1
      simp only [Bool.false_and]
      go_enter Tryz.func26, Tryz.ntmps26
      go_wp2_with (first
        | (refine wpList_insert_st hst rfl _ _ _ rfl rfl (by decide) (by decide) (by decide) ?_; clear hst; intro w1 hst)
        | (at_lookup; refine wpList_lookup_own_int _ rfl _ _ 52 rfl 3 3 .i64 lawI Tryz.underlying52 Tryz.underlying3 (zeroI _) w.heap.size _ _ rfl hst.out.1 _ _ rfl (keyOf_int_mk Tryz.underlying3 (by decide)) ?_; intro c hat _; obtain rfl : c = 3 := want_c hat (by rfl); clear hat)
        | fail)
      obtain ⟨hl, c0, c1, c2⟩ := HC.out
      have q0 := (hst.out.2.cell (p := ⟨blk, off, none⟩) (by exact hl)).trans c0
      have q1 := (hst.out.2.cell (p := ⟨blk, off + 1, none⟩) (by exact hl)).trans c1
      have q2 := (hst.out.2.cell (p := ⟨blk, off + 2, none⟩) (by exact hl)).trans c2
      have B : Aside (Below w.heap.size w w1) := hst.out.2
      clear hst HC hl c0 c1 c2
      refine wp_loop_rounds 4 ?_
      rw [rounds_succ]
      go_wp2_with fail
      rw [rounds_succ]
      go_wp2_with fail
      rw [rounds_succ]
      go_wp2_with fail
      rw [rounds_succ]
      go_wp2_with fail
      go_quiet (fail)
      go_wp2_with fail
      refine bodyPost_ret (results_tmp3 rfl _ _ _) rfl ?_
      exact ⟨rfl, below_drewN' B.out _⟩
  · have d0 : decide (x < y) = false := decide_eq_false k0
    rw [d0]
    clear k0
    simp only [Bool.false_and]
    go_enter Tryz.func26, Tryz.ntmps26
    go_wp2_with (first
      | (refine wpList_insert_st hst rfl _ _ _ rfl rfl (by decide) (by decide) (by decide) ?_; clear hst; intro w1 hst)
      | (at_lookup; refine wpList_lookup_own_int _ rfl _ _ 52 rfl 3 3 .i64 lawI Tryz.underlying52 Tryz.underlying3 (zeroI _) w.heap.size _ _ rfl hst.out.1 _ _ rfl (keyOf_int_mk Tryz.underlying3 (by decide)) ?_; intro c hat _; obtain rfl : c = 3 := want_c hat (by rfl); clear hat)
      | fail)
    obtain ⟨hl, c0, c1, c2⟩ := HC.out
    have q0 := (hst.out.2.cell (p := ⟨blk, off, none⟩) (by exact hl)).trans c0
    have q1 := (hst.out.2.cell (p := ⟨blk, off + 1, none⟩) (by exact hl)).trans c1
    have q2 := (hst.out.2.cell (p := ⟨blk, off + 2, none⟩) (by exact hl)).trans c2
    have B : Aside (Below w.heap.size w w1) := hst.out.2
    clear hst HC hl c0 c1 c2
    refine wp_loop_rounds 4 ?_
    rw [rounds_succ]
    go_wp2_with fail
    rw [rounds_succ]
    go_wp2_with fail
    rw [rounds_succ]
    go_wp2_with fail
    rw [rounds_succ]
    go_wp2_with fail
    go_quiet (fail)
    go_wp2_with fail
    refine bodyPost_ret (results_tmp3 rfl _ _ _) rfl ?_
    exact ⟨rfl, below_drewN' B.out _⟩
end Go.Proofs.YtglgmkikegbchaaGreat
