/- Texts of this claim, laid together: zNum, zNumD, zNumA, zNumB, zNumC, zNumE, zNumOk, zMany. -/
import Derived.Test.YtglgmkikegbchaaGreatGB
import Derived.Maps.OwnOps
/- spec.Numbers (printed by gen/numbers.py). -/
namespace Go.Proofs.YtglgmkikegbchaaGreat
open Go.RowKit Go.Sort Go.Maps

def in2k (x : Int) : Prop := 0 ≤ x ∧ x ≤ 2000
theorem lawI : Keyed Tryz.prog 3 := int_keyed Tryz.underlying3
theorem zeroI (w : World) : (zeroValue 3).run Tryz.prog w = .ok (.int .i64 0) w := by kernel_rfl

/-- A map under construction, and what was there before. -/
def MapSt (w0 w : World) (n : Nat) (D : DataW Unit) : Prop := w.ownsMap Tryz.prog 3 (plainElem Tryz.prog 3) w0.heap.size n D ∧ Below w0.heap.size w0 w

theorem mapSt_made (w0 : World) : MapSt w0 (w0.alloc (.map #[] 0)) 0 (.map []) := ⟨World.ownsMap_made _ _ _ _, below_alloc _ _⟩

theorem wpList_insert_run {P : Program} {w w' : World} {ops : Array Oper} {rest : List Oper} {o : Oper} {a : Act} {Q : Exit → Act → World → Prop}
    (hg : o.guard = none) (t : TypeId) (m x v : Operand) (mv xv vv : Value) (hop : o.op = Op.insert t m x v) (hm : a.eval m = mv) (hx : a.eval x = xv) (hv : a.eval v = vv)
    (hrun : (Instr.mapUpdate t mv xv vv).run P w = .ok () w') (h : wpList P ops Q rest (a.put o.dst undef) w') : wpList P ops Q (o :: rest) a w := by
  refine wpList_plain hg fun K' hK' => ?_
  unfold Oper.wp
  simp [execOp, hop, hm, hx, hv, hrun, Result.andThen]
  exact hK' _ _ h

theorem wpList_insert_st {w0 w : World} {n : Nat} {D : DataW Unit} {ops : Array Oper} {rest : List Oper} {o : Oper} {a : Act} {Q : Exit → Act → World → Prop} (hst : Aside (MapSt w0 w n D))
    (hg : o.guard = none) (m : Operand) (x v : Int) (hop : o.op = Op.insert 52 m (.const (.int .i64 x)) (.const (.int .i64 v))) (hm : a.eval m = .map (some w0.heap.size)) (hx : (Lit.int .i64 x).wf = true) (hv : (Lit.int .i64 v).wf = true) (hn : n < maxLen)
    (hK : ∀ w', Aside (MapSt w0 w' (n + 1) (D.put (.int .i64 x) (.lit (.int .i64 v)))) → wpList Tryz.prog ops Q rest (a.put o.dst undef) w') :
    wpList Tryz.prog ops Q (o :: rest) a w := by
  obtain ⟨w', hrun, r1, r2⟩ := hst.out.1.update lawI Tryz.underlying52 hn (keyOf_int_mk Tryz.underlying3 hx) (plainElem_int Tryz.underlying3 hv)
  exact wpList_insert_run hg _ m _ _ _ _ _ hop hm rfl rfl hrun (hK w' ⟨r1, hst.out.2.grown r2 hst.out.2.size (fun j hj => by cases hj; exact Nat.le_refl _)⟩)

theorem results_tmp3 {fn : Func} {t u v : Tmp} (h : fn.results = #[.tmp t, .tmp u, .tmp v]) (tmps : Array Value) (P : Program) (w : World) :
    (results fn tmps).run P w = .ok (.tuple #[tmps.getD t undef, tmps.getD u undef, tmps.getD v undef]) w := by
  simp [results, h]

/-- How many numbers each function has. -/
def wantMap : DataW Unit := (DataW.put (DataW.put (DataW.put (DataW.put (DataW.put (DataW.put (DataW.put (DataW.put (DataW.put (DataW.put (DataW.put (DataW.put (DataW.put (DataW.put (DataW.put (DataW.put (DataW.put (.map []) (.int .i64 0) (.lit (.int .i64 2))) (.int .i64 1) (.lit (.int .i64 3))) (.int .i64 2) (.lit (.int .i64 2))) (.int .i64 3) (.lit (.int .i64 3))) (.int .i64 4) (.lit (.int .i64 3))) (.int .i64 5) (.lit (.int .i64 3))) (.int .i64 6) (.lit (.int .i64 2))) (.int .i64 7) (.lit (.int .i64 2))) (.int .i64 8) (.lit (.int .i64 2))) (.int .i64 9) (.lit (.int .i64 2))) (.int .i64 10) (.lit (.int .i64 3))) (.int .i64 11) (.lit (.int .i64 1))) (.int .i64 12) (.lit (.int .i64 2))) (.int .i64 13) (.lit (.int .i64 3))) (.int .i64 14) (.lit (.int .i64 1))) (.int .i64 15) (.lit (.int .i64 3))) (.int .i64 16) (.lit (.int .i64 3)))
theorem want_c {f v c : Int} (h : wantMap.atKey (.int .i64 f) (.lit (.int .i64 0)) = .lit (.int .i64 c)) (h2 : wantMap.atKey (.int .i64 f) (.lit (.int .i64 0)) = .lit (.int .i64 v)) : c = v := by
  rw [h] at h2
  injection h2 with h2
  injection h2

theorem within_calls (x y m : Int) (w : World) : Calls Tryz.prog 37 #[.int .i64 x, .int .i64 y, .int .i64 m] w fun e w' => e = .returned (.bool (decide (0 ≤ x) && decide (x ≤ y) && decide (y ≤ m))) ∧ w' = w := by
  by_cases h1 : 0 ≤ x
  · by_cases h2 : x ≤ y
    · rw [show decide (0 ≤ x) = true from decide_eq_true h1, show decide (x ≤ y) = true from decide_eq_true h2]
      go_enter Tryz.func37, Tryz.ntmps37
      go_wp2
      go_ret
      exact ⟨rfl, rfl⟩
    · rw [show decide (0 ≤ x) = true from decide_eq_true h1, show decide (x ≤ y) = false from decide_eq_false h2]
      go_enter Tryz.func37, Tryz.ntmps37
      go_wp2
      go_ret
      exact ⟨rfl, rfl⟩
  · rw [show decide (0 ≤ x) = false from decide_eq_false h1]
    go_enter Tryz.func37, Tryz.ntmps37
    go_wp2
    go_ret
    exact ⟨rfl, rfl⟩

def wantF (f : Int) : Int := match wantMap.atKey (.int .i64 f) (.lit (.int .i64 0)) with | .lit (.int _ c) => c | _ => 0
theorem wantF_c {f c : Int} (h : wantMap.atKey (.int .i64 f) (.lit (.int .i64 0)) = .lit (.int .i64 c)) : wantF f = c := by
  unfold wantF
  rw [h]

set_option maxHeartbeats 8000000 in
set_option maxRecDepth 1000000 in
theorem numbers_bad (f m : Int) (a : Option Addr) (cap n : Nat) (ns : Array Int) (w : World) (h : RdN w a ns) (hn : ns.size = n) (hf : (Lit.int .i64 f).wf = true) (hsz : n < 4611686018427387904)
    (hbad : f < 0 ∨ 17 ≤ f ∨ (n : Int) ≠ wantF f ∨ ∃ i, i < n ∧ ¬ in2k ns[i]!) :
    Calls Tryz.prog 26 #[.int .i64 f, .int .i64 m, .slice a n cap] w fun e w' => e = .returned (.tuple #[.int .i64 0, .int .i64 0, .bool false]) ∧ Below w.heap.size w w' := by
  have H : Aside (RdN w a ns ∧ ns.size = n) := ⟨h, hn⟩
  have HB : Aside (f < 0 ∨ 17 ≤ f ∨ (n : Int) ≠ wantF f ∨ ∃ i, i < n ∧ ¬ in2k ns[i]!) := hbad
  clear h hn hbad
  have hmm := @run_makeMap Tryz.prog
  have hst : Aside (MapSt w (w.alloc (.map #[] 0)) 0 (.map [])) := mapSt_made w
  by_cases g1 : f < 0
  · go_enter Tryz.func26, Tryz.ntmps26
    go_wp2_with (first
      | (refine wpList_insert_st hst rfl _ _ _ rfl rfl (by decide) (by decide) (by decide) ?_; clear hst; intro w1 hst)
      | (at_lookup; refine wpList_lookup_own_int _ rfl _ _ 52 rfl 3 3 .i64 lawI Tryz.underlying52 Tryz.underlying3 (zeroI _) w.heap.size _ _ rfl hst.out.1 _ _ rfl (keyOf_int_mk Tryz.underlying3 hf) ?_; intro c hat _; clear hat)
      | fail)
    refine bodyPost_ret (results_tmp3 rfl _ _ _) rfl ?_
    exact ⟨rfl, hst.out.2⟩
  · by_cases g2 : 17 ≤ f
    · go_enter Tryz.func26, Tryz.ntmps26
      go_wp2_with (first
        | (refine wpList_insert_st hst rfl _ _ _ rfl rfl (by decide) (by decide) (by decide) ?_; clear hst; intro w1 hst)
        | (at_lookup; refine wpList_lookup_own_int _ rfl _ _ 52 rfl 3 3 .i64 lawI Tryz.underlying52 Tryz.underlying3 (zeroI _) w.heap.size _ _ rfl hst.out.1 _ _ rfl (keyOf_int_mk Tryz.underlying3 hf) ?_; intro c hat _; clear hat)
        | fail)
      refine bodyPost_ret (results_tmp3 rfl _ _ _) rfl ?_
      exact ⟨rfl, hst.out.2⟩
    · by_cases g3 : (n : Int) = wantF f
      · obtain ⟨C, hC⟩ : ∃ C, C = wantF f := ⟨_, rfl⟩
        rw [← hC] at g3
        have HC : Aside (wantF f = C) := hC.symm
        clear hC
        go_enter Tryz.func26, Tryz.ntmps26
        go_wp2_with (first
          | (refine wpList_insert_st hst rfl _ _ _ rfl rfl (by decide) (by decide) (by decide) ?_; clear hst; intro w1 hst)
          | (at_lookup; refine wpList_lookup_own_int _ rfl _ _ 52 rfl 3 3 .i64 lawI Tryz.underlying52 Tryz.underlying3 (zeroI _) w.heap.size _ _ rfl hst.out.1 _ _ rfl (keyOf_int_mk Tryz.underlying3 hf) ?_; intro c hat _; obtain rfl : C = c := HC.out.symm.trans (wantF_c hat); clear hat)
          | fail)
        have B : Aside (Below w.heap.size w w1) := hst.out.2
        clear hst
        go_loopg [6, 7, 8, 11, 32] n (fun g v6 v7 v8 _ vi wr => ∃ i : Nat, vi = .int .i64 i ∧ v6 = .int .i64 0 ∧ v7 = .int .i64 0 ∧ v8 = .bool false ∧ i ≤ n ∧ n - i ≤ g ∧ Aside (∀ k, k < i → in2k ns[k]!) ∧ wr = w1)
        case atStart => exact ⟨0, rfl, rfl, rfl, rfl, Nat.zero_le _, by omega, fun k hk => absurd hk (by omega), rfl⟩
        case round =>
          obtain ⟨i, rfl, rfl, rfl, rfl, hin, hg, HE, rfl⟩ := hrel
          by_cases hlt : i < n
          · have hltz : (i : Int) < (n : Int) := by omega
            obtain ⟨⟨hr, hns⟩⟩ : ∃ _ : RdN w a ns ∧ ns.size = n, True := ⟨H.out, trivial⟩
            obtain ⟨blk, off, rfl, hl, hc⟩ := hr (by omega)
            have q := (B.out.cell (p := ⟨blk, off + i, none⟩) hl).trans (hc i (by omega))
            obtain ⟨x, hx⟩ : ∃ x, x = ns[i]! := ⟨_, rfl⟩
            rw [← hx] at q
            have X : Aside (ns[i]! = x) := hx.symm
            clear hc hl hr hns hx
            by_cases p1 : x < 0
            · go_wp2_with fail
              (try simp only [Exit.inBlock, Exit.then]); refine bodyPost_ret (results_tmp3 rfl _ _ _) rfl ?_
              exact ⟨rfl, B.out⟩
            · by_cases p2 : 2000 < x
              · go_wp2_with fail
                (try simp only [Exit.inBlock, Exit.then]); refine bodyPost_ret (results_tmp3 rfl _ _ _) rfl ?_
                exact ⟨rfl, B.out⟩
              · go_wp2_with fail
                go_roundg (n - (i + 1))
                case measure => omega
                case rel => exact ⟨i + 1, by go_num, rfl, rfl, rfl, by omega, by omega, fun k hk => by
                  rcases Nat.lt_or_ge k i with h | h
                  · exact HE k h
                  · rw [show k = i by omega, X.out]; exact ⟨by omega, by omega⟩, rfl⟩
          · exfalso
            rcases HB.out with h | h | h | ⟨j, hj, hb⟩
            · omega
            · omega
            · exact h (g3.trans HC.out.symm)
            · exact hb (HE.out j (by omega))
      · obtain ⟨C, hC⟩ : ∃ C, C = wantF f := ⟨_, rfl⟩
        rw [← hC] at g3
        have HC : Aside (wantF f = C) := hC.symm
        clear hC
        go_enter Tryz.func26, Tryz.ntmps26
        go_wp2_with (first
          | (refine wpList_insert_st hst rfl _ _ _ rfl rfl (by decide) (by decide) (by decide) ?_; clear hst; intro w1 hst)
          | (at_lookup; refine wpList_lookup_own_int _ rfl _ _ 52 rfl 3 3 .i64 lawI Tryz.underlying52 Tryz.underlying3 (zeroI _) w.heap.size _ _ rfl hst.out.1 _ _ rfl (keyOf_int_mk Tryz.underlying3 hf) ?_; intro c hat _; obtain rfl : C = c := HC.out.symm.trans (wantF_c hat); clear hat)
          | fail)
        refine bodyPost_ret (results_tmp3 rfl _ _ _) rfl ?_
        exact ⟨rfl, hst.out.2⟩
end Go.Proofs.YtglgmkikegbchaaGreat

/- spec.Numbers (printed by gen/numbers.py). -/
namespace Go.Proofs.YtglgmkikegbchaaGreat
open Go.RowKit Go.Sort Go.Maps

set_option maxHeartbeats 8000000 in
set_option maxRecDepth 1000000 in
theorem numbers_10 (m : Int) (a : Option Addr) (cap : Nat) (x y z : Int) (w : World) (h : RdN w a #[x, y, z]) (hx : in2k x) (hy : in2k y) (hz : in2k z) :
    Calls Tryz.prog 26 #[.int .i64 10, .int .i64 m, .slice a 3 cap] w fun e w' => e = .returned (.tuple #[.int .i64 (0), .int .i64 (0), .bool (decide (x < m) && decide (y < m) && decide (z < m))]) ∧ Below w.heap.size w w' := by
  obtain ⟨x0, x1⟩ := hx
  obtain ⟨y0, y1⟩ := hy
  obtain ⟨z0, z1⟩ := hz
  obtain ⟨blk, off, rfl, hl, hc⟩ := h (by simp)
  have c0 := hc 0 (by simp)
  have c1 := hc 1 (by simp)
  have c2 := hc 2 (by simp)
  simp at c0 c1 c2
  have hzx : ¬ x < 0 := by omega
  have hyx : ¬ 2000 < x := by omega
  have hzy : ¬ y < 0 := by omega
  have hyy : ¬ 2000 < y := by omega
  have hzz : ¬ z < 0 := by omega
  have hyz : ¬ 2000 < z := by omega
  have HC : Aside (blk < w.heap.size ∧ w.cell? ⟨blk, off, none⟩ = some (.int .i64 x) ∧ w.cell? ⟨blk, off + 1, none⟩ = some (.int .i64 y) ∧ w.cell? ⟨blk, off + 2, none⟩ = some (.int .i64 z)) := ⟨hl, c0, c1, c2⟩
  clear hc h hl c0 c1 c2
  clear x0 x1 y0 y1 z0 z1
  have hmm := @run_makeMap Tryz.prog
  have hst : Aside (MapSt w (w.alloc (.map #[] 0)) 0 (.map [])) := mapSt_made w
  by_cases k0 : x < m
  · have d0 : decide (x < m) = true := decide_eq_true k0
    rw [d0]
    clear k0
    simp only [Bool.true_and]
    by_cases k1 : y < m
    · have d1 : decide (y < m) = true := decide_eq_true k1
      rw [d1]
      clear k1
      simp only [Bool.true_and]
      go_enter Tryz.func26, Tryz.ntmps26
      go_wp2_with (first
        | (refine wpList_insert_st hst rfl _ _ _ rfl rfl (by decide) (by decide) (by decide) ?_; clear hst; intro w1 hst)
        | (at_lookup; refine wpList_lookup_own_int _ rfl _ _ 52 rfl 3 3 .i64 lawI Tryz.underlying52 Tryz.underlying3 (zeroI _) w.heap.size _ _ rfl hst.out.1 _ _ rfl (keyOf_int_mk Tryz.underlying3 (by decide)) ?_; intro c hat _; obtain rfl : c = 3 := want_c hat (by rfl); clear hat)
        | fail)
      obtain ⟨hl, c0, c1, c2⟩ := HC.out
      have q0 := (hst.out.2.cell (p := ⟨blk, off, none⟩) (by exact hl)).trans c0
      have q1 := (hst.out.2.cell (p := ⟨blk, off + 1, none⟩) (by exact hl)).trans c1
      have q2 := (hst.out.2.cell (p := ⟨blk, off + 2, none⟩) (by exact hl)).trans c2
      have B : Aside (Below w.heap.size w w1) := hst.out.2
      clear hst HC hl c0 c1 c2
      refine wp_loop_rounds 4 ?_
      rw [rounds_succ]
      go_wp2_with fail
      rw [rounds_succ]
      go_wp2_with fail
      rw [rounds_succ]
      go_wp2_with fail
      rw [rounds_succ]
      go_wp2_with fail
      go_quiet (fail)
      go_wp2_with fail
      refine bodyPost_ret (results_tmp3 rfl _ _ _) rfl ?_
      exact ⟨rfl, below_drewN' B.out _⟩
    · have d1 : decide (y < m) = false := decide_eq_false k1
      rw [d1]
      clear k1
      simp only [Bool.false_and]
      go_enter Tryz.func26, Tryz.ntmps26
      go_wp2_with (first
        | (refine wpList_insert_st hst rfl _ _ _ rfl rfl (by decide) (by decide) (by decide) ?_; clear hst; intro w1 hst)
        | (at_lookup; refine wpList_lookup_own_int _ rfl _ _ 52 rfl 3 3 .i64 lawI Tryz.underlying52 Tryz.underlying3 (zeroI _) w.heap.size _ _ rfl hst.out.1 _ _ rfl (keyOf_int_mk Tryz.underlying3 (by decide)) ?_; intro c hat _; obtain rfl : c = 3 := want_c hat (by rfl); clear hat)
        | fail)
      obtain ⟨hl, c0, c1, c2⟩ := HC.out
      have q0 := (hst.out.2.cell (p := ⟨blk, off, none⟩) (by exact hl)).trans c0
      have q1 := (hst.out.2.cell (p := ⟨blk, off + 1, none⟩) (by exact hl)).trans c1
      have q2 := (hst.out.2.cell (p := ⟨blk, off + 2, none⟩) (by exact hl)).trans c2
      have B : Aside (Below w.heap.size w w1) := hst.out.2
      clear hst HC hl c0 c1 c2
      refine wp_loop_rounds 4 ?_
      rw [rounds_succ]
      go_wp2_with fail
      rw [rounds_succ]
      go_wp2_with fail
      rw [rounds_succ]
      go_wp2_with fail
      rw [rounds_succ]
      go_wp2_with fail
      go_quiet (fail)
      go_wp2_with fail
      refine bodyPost_ret (results_tmp3 rfl _ _ _) rfl ?_
      exact ⟨rfl, below_drewN' B.out _⟩
  · have d0 : decide (x < m) = false := decide_eq_false k0
    rw [d0]
    clear k0
    simp only [Bool.false_and]
    go_enter Tryz.func26, Tryz.ntmps26
    go_wp2_with (first
      | (refine wpList_insert_st hst rfl _ _ _ rfl rfl (by decide) (by decide) (by decide) ?_; clear hst; intro w1 hst)
      | (at_lookup; refine wpList_lookup_own_int _ rfl _ _ 52 rfl 3 3 .i64 lawI Tryz.underlying52 Tryz.underlying3 (zeroI _) w.heap.size _ _ rfl hst.out.1 _ _ rfl (keyOf_int_mk Tryz.underlying3 (by decide)) ?_; intro c hat _; obtain rfl : c = 3 := want_c hat (by rfl); clear hat)
      | fail)
    obtain ⟨hl, c0, c1, c2⟩ := HC.out
    have q0 := (hst.out.2.cell (p := ⟨blk, off, none⟩) (by exact hl)).trans c0
    have q1 := (hst.out.2.cell (p := ⟨blk, off + 1, none⟩) (by exact hl)).trans c1
    have q2 := (hst.out.2.cell (p := ⟨blk, off + 2, none⟩) (by exact hl)).trans c2
    have B : Aside (Below w.heap.size w w1) := hst.out.2
    clear hst HC hl c0 c1 c2
    refine wp_loop_rounds 4 ?_
    rw [rounds_succ]
    go_wp2_with fail
    rw [rounds_succ]
    go_wp2_with fail
    rw [rounds_succ]
    go_wp2_with fail
    rw [rounds_succ]
    go_wp2_with fail
    go_quiet (fail)
    go_wp2_with fail
    refine bodyPost_ret (results_tmp3 rfl _ _ _) rfl ?_
    exact ⟨rfl, below_drewN' B.out _⟩

set_option maxHeartbeats 8000000 in
set_option maxRecDepth 1000000 in
theorem numbers_11 (m : Int) (a : Option Addr) (cap : Nat) (x : Int) (w : World) (h : RdN w a #[x]) (hx : in2k x) :
    Calls Tryz.prog 26 #[.int .i64 11, .int .i64 m, .slice a 1 cap] w fun e w' => e = .returned (.tuple #[.int .i64 (0), .int .i64 (0), .bool (decide (1 ≤ x) && decide (x + 1 < m))]) ∧ Below w.heap.size w w' := by
  obtain ⟨x0, x1⟩ := hx
  obtain ⟨blk, off, rfl, hl, hc⟩ := h (by simp)
  have c0 := hc 0 (by simp)
  simp at c0
  have hzx : ¬ x < 0 := by omega
  have hyx : ¬ 2000 < x := by omega
  have HC : Aside (blk < w.heap.size ∧ w.cell? ⟨blk, off, none⟩ = some (.int .i64 x)) := ⟨hl, c0⟩
  clear hc h hl c0
  have s0 : IntKind.i64.wrap (x + 1) = x + 1 := by rw [IntKind.wrap_i64]; omega
  clear x0 x1
  have hmm := @run_makeMap Tryz.prog
  have hst : Aside (MapSt w (w.alloc (.map #[] 0)) 0 (.map [])) := mapSt_made w
  by_cases k0 : 1 ≤ x
  · have d0 : decide (1 ≤ x) = true := decide_eq_true k0
    rw [d0]
    clear k0
    simp only [Bool.true_and]
    go_enter Tryz.func26, Tryz.ntmps26
    go_wp2_with (first
      | (refine wpList_insert_st hst rfl _ _ _ rfl rfl (by decide) (by decide) (by decide) ?_; clear hst; intro w1 hst)
      | (at_lookup; refine wpList_lookup_own_int _ rfl _ _ 52 rfl 3 3 .i64 lawI Tryz.underlying52 Tryz.underlying3 (zeroI _) w.heap.size _ _ rfl hst.out.1 _ _ rfl (keyOf_int_mk Tryz.underlying3 (by decide)) ?_; intro c hat _; obtain rfl : c = 1 := want_c hat (by rfl); clear hat)
      | fail)
    obtain ⟨hl, c0⟩ := HC.out
    have q0 := (hst.out.2.cell (p := ⟨blk, off, none⟩) (by exact hl)).trans c0
    have B : Aside (Below w.heap.size w w1) := hst.out.2
    clear hst HC hl c0
    refine wp_loop_rounds 2 ?_
    rw [rounds_succ]
    go_wp2_with fail
    rw [rounds_succ]
    go_wp2_with fail
    go_quiet (fail)
    go_wp2_with fail
    refine bodyPost_ret (results_tmp3 rfl _ _ _) rfl ?_
    exact ⟨rfl, below_drewN' B.out _⟩
  · have d0 : decide (1 ≤ x) = false := decide_eq_false k0
    rw [d0]
    clear k0
    simp only [Bool.false_and]
    go_enter Tryz.func26, Tryz.ntmps26
    go_wp2_with (first
      | (refine wpList_insert_st hst rfl _ _ _ rfl rfl (by decide) (by decide) (by decide) ?_; clear hst; intro w1 hst)
      | (at_lookup; refine wpList_lookup_own_int _ rfl _ _ 52 rfl 3 3 .i64 lawI Tryz.underlying52 Tryz.underlying3 (zeroI _) w.heap.size _ _ rfl hst.out.1 _ _ rfl (keyOf_int_mk Tryz.underlying3 (by decide)) ?_; intro c hat _; obtain rfl : c = 1 := want_c hat (by rfl); clear hat)
      | fail)
    obtain ⟨hl, c0⟩ := HC.out
    have q0 := (hst.out.2.cell (p := ⟨blk, off, none⟩) (by exact hl)).trans c0
    have B : Aside (Below w.heap.size w w1) := hst.out.2
    clear hst HC hl c0
    refine wp_loop_rounds 2 ?_
    rw [rounds_succ]
    go_wp2_with fail
    rw [rounds_succ]
    go_wp2_with fail
    go_quiet (fail)
    go_wp2_with fail
    refine bodyPost_ret (results_tmp3 rfl _ _ _) rfl ?_
    exact ⟨rfl, below_drewN' B.out _⟩

set_option maxHeartbeats 8000000 in
set_option maxRecDepth 1000000 in
theorem numbers_13 (m : Int) (a : Option Addr) (cap : Nat) (x y z : Int) (w : World) (h : RdN w a #[x, y, z]) (hx : in2k x) (hy : in2k y) (hz : in2k z) :
    Calls Tryz.prog 26 #[.int .i64 13, .int .i64 m, .slice a 3 cap] w fun e w' => e = .returned (.tuple #[.int .i64 (min x y), .int .i64 (max x y + z), .bool (decide (min x y + z ≤ max x y) && decide (max x y + z ≤ m))]) ∧ Below w.heap.size w w' := by
  obtain ⟨x0, x1⟩ := hx
  obtain ⟨y0, y1⟩ := hy
  obtain ⟨z0, z1⟩ := hz
  obtain ⟨blk, off, rfl, hl, hc⟩ := h (by simp)
  have c0 := hc 0 (by simp)
  have c1 := hc 1 (by simp)
  have c2 := hc 2 (by simp)
  simp at c0 c1 c2
  have hzx : ¬ x < 0 := by omega
  have hyx : ¬ 2000 < x := by omega
  have hzy : ¬ y < 0 := by omega
  have hyy : ¬ 2000 < y := by omega
  have hzz : ¬ z < 0 := by omega
  have hyz : ¬ 2000 < z := by omega
  have HC : Aside (blk < w.heap.size ∧ w.cell? ⟨blk, off, none⟩ = some (.int .i64 x) ∧ w.cell? ⟨blk, off + 1, none⟩ = some (.int .i64 y) ∧ w.cell? ⟨blk, off + 2, none⟩ = some (.int .i64 z)) := ⟨hl, c0, c1, c2⟩
  clear hc h hl c0 c1 c2
  have s0 : IntKind.i64.wrap (max x y + z) = max x y + z := by rw [IntKind.wrap_i64]; omega
  have s1 : IntKind.i64.wrap (min x y + z) = min x y + z := by rw [IntKind.wrap_i64]; omega
  clear x0 x1 y0 y1 z0 z1
  have hmm := @run_makeMap Tryz.prog
  have hst : Aside (MapSt w (w.alloc (.map #[] 0)) 0 (.map [])) := mapSt_made w
  by_cases k0 : min x y + z ≤ max x y
  · have d0 : decide (min x y + z ≤ max x y) = true := decide_eq_true k0
    rw [d0]
    clear k0
    simp only [Bool.true_and]
    go_enter Tryz.func26, Tryz.ntmps26
    go_wp2_with (first
      | (refine wpList_insert_st hst rfl _ _ _ rfl rfl (by decide) (by decide) (by decide) ?_; clear hst; intro w1 hst)
      | (at_lookup; refine wpList_lookup_own_int _ rfl _ _ 52 rfl 3 3 .i64 lawI Tryz.underlying52 Tryz.underlying3 (zeroI _) w.heap.size _ _ rfl hst.out.1 _ _ rfl (keyOf_int_mk Tryz.underlying3 (by decide)) ?_; intro c hat _; obtain rfl : c = 3 := want_c hat (by rfl); clear hat)
      | fail)
    obtain ⟨hl, c0, c1, c2⟩ := HC.out
    have q0 := (hst.out.2.cell (p := ⟨blk, off, none⟩) (by exact hl)).trans c0
    have q1 := (hst.out.2.cell (p := ⟨blk, off + 1, none⟩) (by exact hl)).trans c1
    have q2 := (hst.out.2.cell (p := ⟨blk, off + 2, none⟩) (by exact hl)).trans c2
    have B : Aside (Below w.heap.size w w1) := hst.out.2
    clear hst HC hl c0 c1 c2
    refine wp_loop_rounds 4 ?_
    rw [rounds_succ]
    go_wp2_with fail
    rw [rounds_succ]
    go_wp2_with fail
    rw [rounds_succ]
    go_wp2_with fail
    rw [rounds_succ]
    go_wp2_with fail
    go_quiet (fail)
    go_wp2_with fail
    go_quiet (fail)
    go_wp2_with fail
    refine bodyPost_ret (results_tmp3 rfl _ _ _) rfl ?_
    exact ⟨rfl, below_drewN' (below_drewN' B.out _) _⟩
  · have d0 : decide (min x y + z ≤ max x y) = false := decide_eq_false k0
    rw [d0]
    clear k0
    simp only [Bool.false_and]
    go_enter Tryz.func26, Tryz.ntmps26
    go_wp2_with (first
      | (refine wpList_insert_st hst rfl _ _ _ rfl rfl (by decide) (by decide) (by decide) ?_; clear hst; intro w1 hst)
      | (at_lookup; refine wpList_lookup_own_int _ rfl _ _ 52 rfl 3 3 .i64 lawI Tryz.underlying52 Tryz.underlying3 (zeroI _) w.heap.size _ _ rfl hst.out.1 _ _ rfl (keyOf_int_mk Tryz.underlying3 (by decide)) ?_; intro c hat _; obtain rfl : c = 3 := want_c hat (by rfl); clear hat)
      | fail)
    obtain ⟨hl, c0, c1, c2⟩ := HC.out
    have q0 := (hst.out.2.cell (p := ⟨blk, off, none⟩) (by exact hl)).trans c0
    have q1 := (hst.out.2.cell (p := ⟨blk, off + 1, none⟩) (by exact hl)).trans c1
    have q2 := (hst.out.2.cell (p := ⟨blk, off + 2, none⟩) (by exact hl)).trans c2
    have B : Aside (Below w.heap.size w w1) := hst.out.2
    clear hst HC hl c0 c1 c2
    refine wp_loop_rounds 4 ?_
    rw [rounds_succ]
    go_wp2_with fail
    rw [rounds_succ]
    go_wp2_with fail
    rw [rounds_succ]
    go_wp2_with fail
    rw [rounds_succ]
    go_wp2_with fail
    go_quiet (fail)
    go_wp2_with fail
    go_quiet (fail)
    go_wp2_with fail
    refine bodyPost_ret (results_tmp3 rfl _ _ _) rfl ?_
    exact ⟨rfl, below_drewN' (below_drewN' B.out _) _⟩
end Go.Proofs.YtglgmkikegbchaaGreat

/- spec.Numbers (printed by gen/numbers.py). -/
namespace Go.Proofs.YtglgmkikegbchaaGreat
open Go.RowKit Go.Sort Go.Maps

set_option maxHeartbeats 8000000 in
set_option maxRecDepth 1000000 in
theorem numbers_0 (m : Int) (a : Option Addr) (cap : Nat) (x y : Int) (w : World) (h : RdN w a #[x, y]) (hx : in2k x) (hy : in2k y) :
    Calls Tryz.prog 26 #[.int .i64 0, .int .i64 m, .slice a 2 cap] w fun e w' => e = .returned (.tuple #[.int .i64 (x), .int .i64 (y), .bool ((decide (0 ≤ x) && decide (x ≤ y) && decide (y ≤ m)))]) ∧ Below w.heap.size w w' := by
  obtain ⟨x0, x1⟩ := hx
  obtain ⟨y0, y1⟩ := hy
  obtain ⟨blk, off, rfl, hl, hc⟩ := h (by simp)
  have c0 := hc 0 (by simp)
  have c1 := hc 1 (by simp)
  simp at c0 c1
  have hzx : ¬ x < 0 := by omega
  have hyx : ¬ 2000 < x := by omega
  have hzy : ¬ y < 0 := by omega
  have hyy : ¬ 2000 < y := by omega
  have HC : Aside (blk < w.heap.size ∧ w.cell? ⟨blk, off, none⟩ = some (.int .i64 x) ∧ w.cell? ⟨blk, off + 1, none⟩ = some (.int .i64 y)) := ⟨hl, c0, c1⟩
  clear hc h hl c0 c1
  have hmm := @run_makeMap Tryz.prog
  have hst : Aside (MapSt w (w.alloc (.map #[] 0)) 0 (.map [])) := mapSt_made w
  obtain ⟨b, hb⟩ : ∃ b, b = (decide (0 ≤ x) && decide (x ≤ y) && decide (y ≤ m)) := ⟨_, rfl⟩
  have hwi := within_calls x y m
  rw [← hb] at hwi ⊢
  clear hb x0 x1 y0 y1
  go_enter Tryz.func26, Tryz.ntmps26
  go_wp2_with (first
    | (refine wpList_insert_st hst rfl _ _ _ rfl rfl (by decide) (by decide) (by decide) ?_; clear hst; intro w1 hst)
    | (at_lookup; refine wpList_lookup_own_int _ rfl _ _ 52 rfl 3 3 .i64 lawI Tryz.underlying52 Tryz.underlying3 (zeroI _) w.heap.size _ _ rfl hst.out.1 _ _ rfl (keyOf_int_mk Tryz.underlying3 (by decide)) ?_; intro c hat _; obtain rfl : c = 2 := want_c hat (by rfl); clear hat)
    | fail)
  obtain ⟨hl, c0, c1⟩ := HC.out
  have q0 := (hst.out.2.cell (p := ⟨blk, off, none⟩) (by exact hl)).trans c0
  have q1 := (hst.out.2.cell (p := ⟨blk, off + 1, none⟩) (by exact hl)).trans c1
  have B : Aside (Below w.heap.size w w1) := hst.out.2
  clear hst HC hl c0 c1
  refine wp_loop_rounds 3 ?_
  rw [rounds_succ]
  go_wp2_with fail
  rw [rounds_succ]
  go_wp2_with fail
  rw [rounds_succ]
  go_wp2_with fail
  go_quiet (first | (go_at_call 37; refine Calls.quiet_of_same (hwi _)))
  go_wp2_with fail
  refine bodyPost_ret (results_tmp3 rfl _ _ _) rfl ?_
  exact ⟨rfl, below_drewN' B.out _⟩

set_option maxHeartbeats 8000000 in
set_option maxRecDepth 1000000 in
theorem numbers_2 (m : Int) (a : Option Addr) (cap : Nat) (x y : Int) (w : World) (h : RdN w a #[x, y]) (hx : in2k x) (hy : in2k y) :
    Calls Tryz.prog 26 #[.int .i64 2, .int .i64 m, .slice a 2 cap] w fun e w' => e = .returned (.tuple #[.int .i64 (x), .int .i64 (y), .bool ((decide (0 ≤ x) && decide (x ≤ y) && decide (y ≤ m)))]) ∧ Below w.heap.size w w' := by
  obtain ⟨x0, x1⟩ := hx
  obtain ⟨y0, y1⟩ := hy
  obtain ⟨blk, off, rfl, hl, hc⟩ := h (by simp)
  have c0 := hc 0 (by simp)
  have c1 := hc 1 (by simp)
  simp at c0 c1
  have hzx : ¬ x < 0 := by omega
  have hyx : ¬ 2000 < x := by omega
  have hzy : ¬ y < 0 := by omega
  have hyy : ¬ 2000 < y := by omega
  have HC : Aside (blk < w.heap.size ∧ w.cell? ⟨blk, off, none⟩ = some (.int .i64 x) ∧ w.cell? ⟨blk, off + 1, none⟩ = some (.int .i64 y)) := ⟨hl, c0, c1⟩
  clear hc h hl c0 c1
  have hmm := @run_makeMap Tryz.prog
  have hst : Aside (MapSt w (w.alloc (.map #[] 0)) 0 (.map [])) := mapSt_made w
  obtain ⟨b, hb⟩ : ∃ b, b = (decide (0 ≤ x) && decide (x ≤ y) && decide (y ≤ m)) := ⟨_, rfl⟩
  have hwi := within_calls x y m
  rw [← hb] at hwi ⊢
  clear hb x0 x1 y0 y1
  go_enter Tryz.func26, Tryz.ntmps26
  go_wp2_with (first
    | (refine wpList_insert_st hst rfl _ _ _ rfl rfl (by decide) (by decide) (by decide) ?_; clear hst; intro w1 hst)
    | (at_lookup; refine wpList_lookup_own_int _ rfl _ _ 52 rfl 3 3 .i64 lawI Tryz.underlying52 Tryz.underlying3 (zeroI _) w.heap.size _ _ rfl hst.out.1 _ _ rfl (keyOf_int_mk Tryz.underlying3 (by decide)) ?_; intro c hat _; obtain rfl : c = 2 := want_c hat (by rfl); clear hat)
    | fail)
  obtain ⟨hl, c0, c1⟩ := HC.out
  have q0 := (hst.out.2.cell (p := ⟨blk, off, none⟩) (by exact hl)).trans c0
  have q1 := (hst.out.2.cell (p := ⟨blk, off + 1, none⟩) (by exact hl)).trans c1
  have B : Aside (Below w.heap.size w w1) := hst.out.2
  clear hst HC hl c0 c1
  refine wp_loop_rounds 3 ?_
  rw [rounds_succ]
  go_wp2_with fail
  rw [rounds_succ]
  go_wp2_with fail
  rw [rounds_succ]
  go_wp2_with fail
  go_quiet (first | (go_at_call 37; refine Calls.quiet_of_same (hwi _)))
  go_wp2_with fail
  refine bodyPost_ret (results_tmp3 rfl _ _ _) rfl ?_
  exact ⟨rfl, below_drewN' B.out _⟩

set_option maxHeartbeats 8000000 in
set_option maxRecDepth 1000000 in
theorem numbers_7 (m : Int) (a : Option Addr) (cap : Nat) (x y : Int) (w : World) (h : RdN w a #[x, y]) (hx : in2k x) (hy : in2k y) :
    Calls Tryz.prog 26 #[.int .i64 7, .int .i64 m, .slice a 2 cap] w fun e w' => e = .returned (.tuple #[.int .i64 (x), .int .i64 (y), .bool ((decide (0 ≤ x) && decide (x ≤ y) && decide (y ≤ m)))]) ∧ Below w.heap.size w w' := by
  obtain ⟨x0, x1⟩ := hx
  obtain ⟨y0, y1⟩ := hy
  obtain ⟨blk, off, rfl, hl, hc⟩ := h (by simp)
  have c0 := hc 0 (by simp)
  have c1 := hc 1 (by simp)
  simp at c0 c1
  have hzx : ¬ x < 0 := by omega
  have hyx : ¬ 2000 < x := by omega
  have hzy : ¬ y < 0 := by omega
  have hyy : ¬ 2000 < y := by omega
  have HC : Aside (blk < w.heap.size ∧ w.cell? ⟨blk, off, none⟩ = some (.int .i64 x) ∧ w.cell? ⟨blk, off + 1, none⟩ = some (.int .i64 y)) := ⟨hl, c0, c1⟩
  clear hc h hl c0 c1
  have hmm := @run_makeMap Tryz.prog
  have hst : Aside (MapSt w (w.alloc (.map #[] 0)) 0 (.map [])) := mapSt_made w
  obtain ⟨b, hb⟩ : ∃ b, b = (decide (0 ≤ x) && decide (x ≤ y) && decide (y ≤ m)) := ⟨_, rfl⟩
  have hwi := within_calls x y m
  rw [← hb] at hwi ⊢
  clear hb x0 x1 y0 y1
  go_enter Tryz.func26, Tryz.ntmps26
  go_wp2_with (first
    | (refine wpList_insert_st hst rfl _ _ _ rfl rfl (by decide) (by decide) (by decide) ?_; clear hst; intro w1 hst)
    | (at_lookup; refine wpList_lookup_own_int _ rfl _ _ 52 rfl 3 3 .i64 lawI Tryz.underlying52 Tryz.underlying3 (zeroI _) w.heap.size _ _ rfl hst.out.1 _ _ rfl (keyOf_int_mk Tryz.underlying3 (by decide)) ?_; intro c hat _; obtain rfl : c = 2 := want_c hat (by rfl); clear hat)
    | fail)
  obtain ⟨hl, c0, c1⟩ := HC.out
  have q0 := (hst.out.2.cell (p := ⟨blk, off, none⟩) (by exact hl)).trans c0
  have q1 := (hst.out.2.cell (p := ⟨blk, off + 1, none⟩) (by exact hl)).trans c1
  have B : Aside (Below w.heap.size w w1) := hst.out.2
  clear hst HC hl c0 c1
  refine wp_loop_rounds 3 ?_
  rw [rounds_succ]
  go_wp2_with fail
  rw [rounds_succ]
  go_wp2_with fail
  rw [rounds_succ]
  go_wp2_with fail
  go_quiet (first | (go_at_call 37; refine Calls.quiet_of_same (hwi _)))
  go_wp2_with fail
  refine bodyPost_ret (results_tmp3 rfl _ _ _) rfl ?_
  exact ⟨rfl, below_drewN' B.out _⟩

set_option maxHeartbeats 8000000 in
set_option maxRecDepth 1000000 in
theorem numbers_12 (m : Int) (a : Option Addr) (cap : Nat) (x y : Int) (w : World) (h : RdN w a #[x, y]) (hx : in2k x) (hy : in2k y) :
    Calls Tryz.prog 26 #[.int .i64 12, .int .i64 m, .slice a 2 cap] w fun e w' => e = .returned (.tuple #[.int .i64 (x), .int .i64 (y), .bool ((decide (0 ≤ x) && decide (x ≤ y) && decide (y ≤ m)))]) ∧ Below w.heap.size w w' := by
  obtain ⟨x0, x1⟩ := hx
  obtain ⟨y0, y1⟩ := hy
  obtain ⟨blk, off, rfl, hl, hc⟩ := h (by simp)
  have c0 := hc 0 (by simp)
  have c1 := hc 1 (by simp)
  simp at c0 c1
  have hzx : ¬ x < 0 := by omega
  have hyx : ¬ 2000 < x := by omega
  have hzy : ¬ y < 0 := by omega
  have hyy : ¬ 2000 < y := by omega
  have HC : Aside (blk < w.heap.size ∧ w.cell? ⟨blk, off, none⟩ = some (.int .i64 x) ∧ w.cell? ⟨blk, off + 1, none⟩ = some (.int .i64 y)) := ⟨hl, c0, c1⟩
  clear hc h hl c0 c1
  have hmm := @run_makeMap Tryz.prog
  have hst : Aside (MapSt w (w.alloc (.map #[] 0)) 0 (.map [])) := mapSt_made w
  obtain ⟨b, hb⟩ : ∃ b, b = (decide (0 ≤ x) && decide (x ≤ y) && decide (y ≤ m)) := ⟨_, rfl⟩
  have hwi := within_calls x y m
  rw [← hb] at hwi ⊢
  clear hb x0 x1 y0 y1
  go_enter Tryz.func26, Tryz.ntmps26
  go_wp2_with (first
    | (refine wpList_insert_st hst rfl _ _ _ rfl rfl (by decide) (by decide) (by decide) ?_; clear hst; intro w1 hst)
    | (at_lookup; refine wpList_lookup_own_int _ rfl _ _ 52 rfl 3 3 .i64 lawI Tryz.underlying52 Tryz.underlying3 (zeroI _) w.heap.size _ _ rfl hst.out.1 _ _ rfl (keyOf_int_mk Tryz.underlying3 (by decide)) ?_; intro c hat _; obtain rfl : c = 2 := want_c hat (by rfl); clear hat)
    | fail)
  obtain ⟨hl, c0, c1⟩ := HC.out
  have q0 := (hst.out.2.cell (p := ⟨blk, off, none⟩) (by exact hl)).trans c0
  have q1 := (hst.out.2.cell (p := ⟨blk, off + 1, none⟩) (by exact hl)).trans c1
  have B : Aside (Below w.heap.size w w1) := hst.out.2
  clear hst HC hl c0 c1
  refine wp_loop_rounds 3 ?_
  rw [rounds_succ]
  go_wp2_with fail
  rw [rounds_succ]
  go_wp2_with fail
  rw [rounds_succ]
  go_wp2_with fail
  go_quiet (first | (go_at_call 37; refine Calls.quiet_of_same (hwi _)))
  go_wp2_with fail
  refine bodyPost_ret (results_tmp3 rfl _ _ _) rfl ?_
  exact ⟨rfl, below_drewN' B.out _⟩

set_option maxHeartbeats 8000000 in
set_option maxRecDepth 1000000 in
theorem numbers_14 (m : Int) (a : Option Addr) (cap : Nat) (x : Int) (w : World) (h : RdN w a #[x]) (hx : in2k x) :
    Calls Tryz.prog 26 #[.int .i64 14, .int .i64 m, .slice a 1 cap] w fun e w' => e = .returned (.tuple #[.int .i64 (0), .int .i64 (x), .bool (decide (x ≤ m))]) ∧ Below w.heap.size w w' := by
  obtain ⟨x0, x1⟩ := hx
  obtain ⟨blk, off, rfl, hl, hc⟩ := h (by simp)
  have c0 := hc 0 (by simp)
  simp at c0
  have hzx : ¬ x < 0 := by omega
  have hyx : ¬ 2000 < x := by omega
  have HC : Aside (blk < w.heap.size ∧ w.cell? ⟨blk, off, none⟩ = some (.int .i64 x)) := ⟨hl, c0⟩
  clear hc h hl c0
  clear x0 x1
  have hmm := @run_makeMap Tryz.prog
  have hst : Aside (MapSt w (w.alloc (.map #[] 0)) 0 (.map [])) := mapSt_made w
  go_enter Tryz.func26, Tryz.ntmps26
  go_wp2_with (first
    | (refine wpList_insert_st hst rfl _ _ _ rfl rfl (by decide) (by decide) (by decide) ?_; clear hst; intro w1 hst)
    | (at_lookup; refine wpList_lookup_own_int _ rfl _ _ 52 rfl 3 3 .i64 lawI Tryz.underlying52 Tryz.underlying3 (zeroI _) w.heap.size _ _ rfl hst.out.1 _ _ rfl (keyOf_int_mk Tryz.underlying3 (by decide)) ?_; intro c hat _; obtain rfl : c = 1 := want_c hat (by rfl); clear hat)
    | fail)
  obtain ⟨hl, c0⟩ := HC.out
  have q0 := (hst.out.2.cell (p := ⟨blk, off, none⟩) (by exact hl)).trans c0
  have B : Aside (Below w.heap.size w w1) := hst.out.2
  clear hst HC hl c0
  refine wp_loop_rounds 2 ?_
  rw [rounds_succ]
  go_wp2_with fail
  rw [rounds_succ]
  go_wp2_with fail
  go_quiet (fail)
  go_wp2_with fail
  refine bodyPost_ret (results_tmp3 rfl _ _ _) rfl ?_
  exact ⟨rfl, below_drewN' B.out _⟩
end Go.Proofs.YtglgmkikegbchaaGreat

/- spec.Numbers (printed by gen/numbers.py). -/
namespace Go.Proofs.YtglgmkikegbchaaGreat
open Go.RowKit Go.Sort Go.Maps

set_option maxHeartbeats 8000000 in
set_option maxRecDepth 1000000 in
theorem numbers_1 (m : Int) (a : Option Addr) (cap : Nat) (x y z : Int) (w : World) (h : RdN w a #[x, y, z]) (hx : in2k x) (hy : in2k y) (hz : in2k z) :
    Calls Tryz.prog 26 #[.int .i64 1, .int .i64 m, .slice a 3 cap] w fun e w' => e = .returned (.tuple #[.int .i64 (z), .int .i64 (z + y), .bool (decide (x < y) && decide (z + y ≤ m))]) ∧ Below w.heap.size w w' := by
  obtain ⟨x0, x1⟩ := hx
  obtain ⟨y0, y1⟩ := hy
  obtain ⟨z0, z1⟩ := hz
  obtain ⟨blk, off, rfl, hl, hc⟩ := h (by simp)
  have c0 := hc 0 (by simp)
  have c1 := hc 1 (by simp)
  have c2 := hc 2 (by simp)
  simp at c0 c1 c2
  have hzx : ¬ x < 0 := by omega
  have hyx : ¬ 2000 < x := by omega
  have hzy : ¬ y < 0 := by omega
  have hyy : ¬ 2000 < y := by omega
  have hzz : ¬ z < 0 := by omega
  have hyz : ¬ 2000 < z := by omega
  have HC : Aside (blk < w.heap.size ∧ w.cell? ⟨blk, off, none⟩ = some (.int .i64 x) ∧ w.cell? ⟨blk, off + 1, none⟩ = some (.int .i64 y) ∧ w.cell? ⟨blk, off + 2, none⟩ = some (.int .i64 z)) := ⟨hl, c0, c1, c2⟩
  clear hc h hl c0 c1 c2
  have s0 : IntKind.i64.wrap (z + y) = z + y := by rw [IntKind.wrap_i64]; omega
  clear x0 x1 y0 y1 z0 z1
  have hmm := @run_makeMap Tryz.prog
  have hst : Aside (MapSt w (w.alloc (.map #[] 0)) 0 (.map [])) := mapSt_made w
  by_cases k0 : x < y
  · have d0 : decide (x < y) = true := decide_eq_true k0
    rw [d0]
    clear k0
    simp only [Bool.true_and]
    go_enter Tryz.func26, Tryz.ntmps26
    go_wp2_with (first
      | (refine wpList_insert_st hst rfl _ _ _ rfl rfl (by decide) (by decide) (by decide) ?_; clear hst; intro w1 hst)
      | (at_lookup; refine wpList_lookup_own_int _ rfl _ _ 52 rfl 3 3 .i64 lawI Tryz.underlying52 Tryz.underlying3 (zeroI _) w.heap.size _ _ rfl hst.out.1 _ _ rfl (keyOf_int_mk Tryz.underlying3 (by decide)) ?_; intro c hat _; obtain rfl : c = 3 := want_c hat (by rfl); clear hat)
      | fail)
    obtain ⟨hl, c0, c1, c2⟩ := HC.out
    have q0 := (hst.out.2.cell (p := ⟨blk, off, none⟩) (by exact hl)).trans c0
    have q1 := (hst.out.2.cell (p := ⟨blk, off + 1, none⟩) (by exact hl)).trans c1
    have q2 := (hst.out.2.cell (p := ⟨blk, off + 2, none⟩) (by exact hl)).trans c2
    have B : Aside (Below w.heap.size w w1) := hst.out.2
    clear hst HC hl c0 c1 c2
    refine wp_loop_rounds 4 ?_
    rw [rounds_succ]
    go_wp2_with fail
    rw [rounds_succ]
    go_wp2_with fail
    rw [rounds_succ]
    go_wp2_with fail
    rw [rounds_succ]
    go_wp2_with fail
    go_quiet (fail)
    go_wp2_with fail
    refine bodyPost_ret (results_tmp3 rfl _ _ _) rfl ?_
    exact ⟨rfl, below_drewN' B.out _⟩
  · have d0 : decide (x < y) = false := decide_eq_false k0
    rw [d0]
    clear k0
    simp only [Bool.false_and]
    go_enter Tryz.func26, Tryz.ntmps26
    go_wp2_with (first
      | (refine wpList_insert_st hst rfl _ _ _ rfl rfl (by decide) (by decide) (by decide) ?_; clear hst; intro w1 hst)
      | (at_lookup; refine wpList_lookup_own_int _ rfl _ _ 52 rfl 3 3 .i64 lawI Tryz.underlying52 Tryz.underlying3 (zeroI _) w.heap.size _ _ rfl hst.out.1 _ _ rfl (keyOf_int_mk Tryz.underlying3 (by decide)) ?_; intro c hat _; obtain rfl : c = 3 := want_c hat (by rfl); clear hat)
      | fail)
    obtain ⟨hl, c0, c1, c2⟩ := HC.out
    have q0 := (hst.out.2.cell (p := ⟨blk, off, none⟩) (by exact hl)).trans c0
    have q1 := (hst.out.2.cell (p := ⟨blk, off + 1, none⟩) (by exact hl)).trans c1
    have q2 := (hst.out.2.cell (p := ⟨blk, off + 2, none⟩) (by exact hl)).trans c2
    have B : Aside (Below w.heap.size w w1) := hst.out.2
    clear hst HC hl c0 c1 c2
    refine wp_loop_rounds 4 ?_
    rw [rounds_succ]
    go_wp2_with fail
    rw [rounds_succ]
    go_wp2_with fail
    rw [rounds_succ]
    go_wp2_with fail
    rw [rounds_succ]
    go_wp2_with fail
    go_quiet (fail)
    go_wp2_with fail
    refine bodyPost_ret (results_tmp3 rfl _ _ _) rfl ?_
    exact ⟨rfl, below_drewN' B.out _⟩

set_option maxHeartbeats 8000000 in
set_option maxRecDepth 1000000 in
theorem numbers_3 (m : Int) (a : Option Addr) (cap : Nat) (x y z : Int) (w : World) (h : RdN w a #[x, y, z]) (hx : in2k x) (hy : in2k y) (hz : in2k z) :
    Calls Tryz.prog 26 #[.int .i64 3, .int .i64 m, .slice a 3 cap] w fun e w' => e = .returned (.tuple #[.int .i64 (x), .int .i64 (y), .bool ((decide (0 ≤ x) && decide (x ≤ y) && decide (y ≤ m)) && decide (z ≤ 64))]) ∧ Below w.heap.size w w' := by
  obtain ⟨x0, x1⟩ := hx
  obtain ⟨y0, y1⟩ := hy
  obtain ⟨z0, z1⟩ := hz
  obtain ⟨blk, off, rfl, hl, hc⟩ := h (by simp)
  have c0 := hc 0 (by simp)
  have c1 := hc 1 (by simp)
  have c2 := hc 2 (by simp)
  simp at c0 c1 c2
  have hzx : ¬ x < 0 := by omega
  have hyx : ¬ 2000 < x := by omega
  have hzy : ¬ y < 0 := by omega
  have hyy : ¬ 2000 < y := by omega
  have hzz : ¬ z < 0 := by omega
  have hyz : ¬ 2000 < z := by omega
  have HC : Aside (blk < w.heap.size ∧ w.cell? ⟨blk, off, none⟩ = some (.int .i64 x) ∧ w.cell? ⟨blk, off + 1, none⟩ = some (.int .i64 y) ∧ w.cell? ⟨blk, off + 2, none⟩ = some (.int .i64 z)) := ⟨hl, c0, c1, c2⟩
  clear hc h hl c0 c1 c2
  have hmm := @run_makeMap Tryz.prog
  have hst : Aside (MapSt w (w.alloc (.map #[] 0)) 0 (.map [])) := mapSt_made w
  obtain ⟨b, hb⟩ : ∃ b, b = (decide (0 ≤ x) && decide (x ≤ y) && decide (y ≤ m)) := ⟨_, rfl⟩
  have hwi := within_calls x y m
  rw [← hb] at hwi ⊢
  clear hb x0 x1 y0 y1 z0 z1
  cases b with
  | false =>
    simp only [Bool.false_and]
    go_enter Tryz.func26, Tryz.ntmps26
    go_wp2_with (first
      | (refine wpList_insert_st hst rfl _ _ _ rfl rfl (by decide) (by decide) (by decide) ?_; clear hst; intro w1 hst)
      | (at_lookup; refine wpList_lookup_own_int _ rfl _ _ 52 rfl 3 3 .i64 lawI Tryz.underlying52 Tryz.underlying3 (zeroI _) w.heap.size _ _ rfl hst.out.1 _ _ rfl (keyOf_int_mk Tryz.underlying3 (by decide)) ?_; intro c hat _; obtain rfl : c = 3 := want_c hat (by rfl); clear hat)
      | fail)
    obtain ⟨hl, c0, c1, c2⟩ := HC.out
    have q0 := (hst.out.2.cell (p := ⟨blk, off, none⟩) (by exact hl)).trans c0
    have q1 := (hst.out.2.cell (p := ⟨blk, off + 1, none⟩) (by exact hl)).trans c1
    have q2 := (hst.out.2.cell (p := ⟨blk, off + 2, none⟩) (by exact hl)).trans c2
    have B : Aside (Below w.heap.size w w1) := hst.out.2
    clear hst HC hl c0 c1 c2
    refine wp_loop_rounds 4 ?_
    rw [rounds_succ]
    go_wp2_with fail
    rw [rounds_succ]
    go_wp2_with fail
    rw [rounds_succ]
    go_wp2_with fail
    rw [rounds_succ]
    go_wp2_with fail
    go_quiet (first | (go_at_call 37; refine Calls.quiet_of_same (hwi _)))
    go_wp2_with fail
    refine bodyPost_ret (results_tmp3 rfl _ _ _) rfl ?_
    exact ⟨rfl, below_drewN' B.out _⟩
  | true =>
    simp only [Bool.true_and]
    go_enter Tryz.func26, Tryz.ntmps26
    go_wp2_with (first
      | (refine wpList_insert_st hst rfl _ _ _ rfl rfl (by decide) (by decide) (by decide) ?_; clear hst; intro w1 hst)
      | (at_lookup; refine wpList_lookup_own_int _ rfl _ _ 52 rfl 3 3 .i64 lawI Tryz.underlying52 Tryz.underlying3 (zeroI _) w.heap.size _ _ rfl hst.out.1 _ _ rfl (keyOf_int_mk Tryz.underlying3 (by decide)) ?_; intro c hat _; obtain rfl : c = 3 := want_c hat (by rfl); clear hat)
      | fail)
    obtain ⟨hl, c0, c1, c2⟩ := HC.out
    have q0 := (hst.out.2.cell (p := ⟨blk, off, none⟩) (by exact hl)).trans c0
    have q1 := (hst.out.2.cell (p := ⟨blk, off + 1, none⟩) (by exact hl)).trans c1
    have q2 := (hst.out.2.cell (p := ⟨blk, off + 2, none⟩) (by exact hl)).trans c2
    have B : Aside (Below w.heap.size w w1) := hst.out.2
    clear hst HC hl c0 c1 c2
    refine wp_loop_rounds 4 ?_
    rw [rounds_succ]
    go_wp2_with fail
    rw [rounds_succ]
    go_wp2_with fail
    rw [rounds_succ]
    go_wp2_with fail
    rw [rounds_succ]
    go_wp2_with fail
    go_quiet (first | (go_at_call 37; refine Calls.quiet_of_same (hwi _)))
    go_wp2_with fail
    refine bodyPost_ret (results_tmp3 rfl _ _ _) rfl ?_
    exact ⟨rfl, below_drewN' B.out _⟩

set_option maxHeartbeats 8000000 in
set_option maxRecDepth 1000000 in
theorem numbers_4 (m : Int) (a : Option Addr) (cap : Nat) (x y z : Int) (w : World) (h : RdN w a #[x, y, z]) (hx : in2k x) (hy : in2k y) (hz : in2k z) :
    Calls Tryz.prog 26 #[.int .i64 4, .int .i64 m, .slice a 3 cap] w fun e w' => e = .returned (.tuple #[.int .i64 (x), .int .i64 (y), .bool ((decide (0 ≤ x) && decide (x ≤ y) && decide (y ≤ m)) && decide (x ≤ z) && decide (z < y))]) ∧ Below w.heap.size w w' := by
  obtain ⟨x0, x1⟩ := hx
  obtain ⟨y0, y1⟩ := hy
  obtain ⟨z0, z1⟩ := hz
  obtain ⟨blk, off, rfl, hl, hc⟩ := h (by simp)
  have c0 := hc 0 (by simp)
  have c1 := hc 1 (by simp)
  have c2 := hc 2 (by simp)
  simp at c0 c1 c2
  have hzx : ¬ x < 0 := by omega
  have hyx : ¬ 2000 < x := by omega
  have hzy : ¬ y < 0 := by omega
  have hyy : ¬ 2000 < y := by omega
  have hzz : ¬ z < 0 := by omega
  have hyz : ¬ 2000 < z := by omega
  have HC : Aside (blk < w.heap.size ∧ w.cell? ⟨blk, off, none⟩ = some (.int .i64 x) ∧ w.cell? ⟨blk, off + 1, none⟩ = some (.int .i64 y) ∧ w.cell? ⟨blk, off + 2, none⟩ = some (.int .i64 z)) := ⟨hl, c0, c1, c2⟩
  clear hc h hl c0 c1 c2
  have hmm := @run_makeMap Tryz.prog
  have hst : Aside (MapSt w (w.alloc (.map #[] 0)) 0 (.map [])) := mapSt_made w
  obtain ⟨b, hb⟩ : ∃ b, b = (decide (0 ≤ x) && decide (x ≤ y) && decide (y ≤ m)) := ⟨_, rfl⟩
  have hwi := within_calls x y m
  rw [← hb] at hwi ⊢
  clear hb x0 x1 y0 y1 z0 z1
  cases b with
  | false =>
    simp only [Bool.false_and]
    go_enter Tryz.func26, Tryz.ntmps26
    go_wp2_with (first
      | (refine wpList_insert_st hst rfl _ _ _ rfl rfl (by decide) (by decide) (by decide) ?_; clear hst; intro w1 hst)
      | (at_lookup; refine wpList_lookup_own_int _ rfl _ _ 52 rfl 3 3 .i64 lawI Tryz.underlying52 Tryz.underlying3 (zeroI _) w.heap.size _ _ rfl hst.out.1 _ _ rfl (keyOf_int_mk Tryz.underlying3 (by decide)) ?_; intro c hat _; obtain rfl : c = 3 := want_c hat (by rfl); clear hat)
      | fail)
    obtain ⟨hl, c0, c1, c2⟩ := HC.out
    have q0 := (hst.out.2.cell (p := ⟨blk, off, none⟩) (by exact hl)).trans c0
    have q1 := (hst.out.2.cell (p := ⟨blk, off + 1, none⟩) (by exact hl)).trans c1
    have q2 := (hst.out.2.cell (p := ⟨blk, off + 2, none⟩) (by exact hl)).trans c2
    have B : Aside (Below w.heap.size w w1) := hst.out.2
    clear hst HC hl c0 c1 c2
    refine wp_loop_rounds 4 ?_
    rw [rounds_succ]
    go_wp2_with fail
    rw [rounds_succ]
    go_wp2_with fail
    rw [rounds_succ]
    go_wp2_with fail
    rw [rounds_succ]
    go_wp2_with fail
    go_quiet (first | (go_at_call 37; refine Calls.quiet_of_same (hwi _)))
    go_wp2_with fail
    refine bodyPost_ret (results_tmp3 rfl _ _ _) rfl ?_
    exact ⟨rfl, below_drewN' B.out _⟩
  | true =>
    simp only [Bool.true_and]
    by_cases k1 : x ≤ z
    · have d1 : decide (x ≤ z) = true := decide_eq_true k1
      rw [d1]
      clear k1
      simp only [Bool.true_and]
      go_enter Tryz.func26, Tryz.ntmps26
      go_wp2_with (first
        | (refine wpList_insert_st hst rfl _ _ _ rfl rfl (by decide) (by decide) (by decide) ?_; clear hst; intro w1 hst)
        | (at_lookup; refine wpList_lookup_own_int _ rfl _ _ 52 rfl 3 3 .i64 lawI Tryz.underlying52 Tryz.underlying3 (zeroI _) w.heap.size _ _ rfl hst.out.1 _ _ rfl (keyOf_int_mk Tryz.underlying3 (by decide)) ?_; intro c hat _; obtain rfl : c = 3 := want_c hat (by rfl); clear hat)
        | fail)
      obtain ⟨hl, c0, c1, c2⟩ := HC.out
      have q0 := (hst.out.2.cell (p := ⟨blk, off, none⟩) (by exact hl)).trans c0
      have q1 := (hst.out.2.cell (p := ⟨blk, off + 1, none⟩) (by exact hl)).trans c1
      have q2 := (hst.out.2.cell (p := ⟨blk, off + 2, none⟩) (by exact hl)).trans c2
      have B : Aside (Below w.heap.size w w1) := hst.out.2
      clear hst HC hl c0 c1 c2
      refine wp_loop_rounds 4 ?_
      rw [rounds_succ]
      go_wp2_with fail
      rw [rounds_succ]
      go_wp2_with fail
      rw [rounds_succ]
      go_wp2_with fail
      rw [rounds_succ]
      go_wp2_with fail
      go_quiet (first | (go_at_call 37; refine Calls.quiet_of_same (hwi _)))
      go_wp2_with fail
      refine bodyPost_ret (results_tmp3 rfl _ _ _) rfl ?_
      exact ⟨rfl, below_drewN' B.out _⟩
    · have d1 : decide (x ≤ z) = false := decide_eq_false k1
      rw [d1]
      clear k1
      simp only [Bool.false_and]
      go_enter Tryz.func26, Tryz.ntmps26
      go_wp2_with (first
        | (refine wpList_insert_st hst rfl _ _ _ rfl rfl (by decide) (by decide) (by decide) ?_; clear hst; intro w1 hst)
        | (at_lookup; refine wpList_lookup_own_int _ rfl _ _ 52 rfl 3 3 .i64 lawI Tryz.underlying52 Tryz.underlying3 (zeroI _) w.heap.size _ _ rfl hst.out.1 _ _ rfl (keyOf_int_mk Tryz.underlying3 (by decide)) ?_; intro c hat _; obtain rfl : c = 3 := want_c hat (by rfl); clear hat)
        | fail)
      obtain ⟨hl, c0, c1, c2⟩ := HC.out
      have q0 := (hst.out.2.cell (p := ⟨blk, off, none⟩) (by exact hl)).trans c0
      have q1 := (hst.out.2.cell (p := ⟨blk, off + 1, none⟩) (by exact hl)).trans c1
      have q2 := (hst.out.2.cell (p := ⟨blk, off + 2, none⟩) (by exact hl)).trans c2
      have B : Aside (Below w.heap.size w w1) := hst.out.2
      clear hst HC hl c0 c1 c2
      refine wp_loop_rounds 4 ?_
      rw [rounds_succ]
      go_wp2_with fail
      rw [rounds_succ]
      go_wp2_with fail
      rw [rounds_succ]
      go_wp2_with fail
      rw [rounds_succ]
      go_wp2_with fail
      go_quiet (first | (go_at_call 37; refine Calls.quiet_of_same (hwi _)))
      go_wp2_with fail
      refine bodyPost_ret (results_tmp3 rfl _ _ _) rfl ?_
      exact ⟨rfl, below_drewN' B.out _⟩
end Go.Proofs.YtglgmkikegbchaaGreat

/- spec.Numbers (printed by gen/numbers.py). -/
namespace Go.Proofs.YtglgmkikegbchaaGreat
open Go.RowKit Go.Sort Go.Maps

set_option maxHeartbeats 8000000 in
set_option maxRecDepth 1000000 in
theorem numbers_5 (m : Int) (a : Option Addr) (cap : Nat) (x y z : Int) (w : World) (h : RdN w a #[x, y, z]) (hx : in2k x) (hy : in2k y) (hz : in2k z) :
    Calls Tryz.prog 26 #[.int .i64 5, .int .i64 m, .slice a 3 cap] w fun e w' => e = .returned (.tuple #[.int .i64 (x), .int .i64 (y), .bool ((decide (0 ≤ x) && decide (x ≤ y) && decide (y ≤ m)) && decide (x ≤ z) && decide (z < y))]) ∧ Below w.heap.size w w' := by
  obtain ⟨x0, x1⟩ := hx
  obtain ⟨y0, y1⟩ := hy
  obtain ⟨z0, z1⟩ := hz
  obtain ⟨blk, off, rfl, hl, hc⟩ := h (by simp)
  have c0 := hc 0 (by simp)
  have c1 := hc 1 (by simp)
  have c2 := hc 2 (by simp)
  simp at c0 c1 c2
  have hzx : ¬ x < 0 := by omega
  have hyx : ¬ 2000 < x := by omega
  have hzy : ¬ y < 0 := by omega
  have hyy : ¬ 2000 < y := by omega
  have hzz : ¬ z < 0 := by omega
  have hyz : ¬ 2000 < z := by omega
  have HC : Aside (blk < w.heap.size ∧ w.cell? ⟨blk, off, none⟩ = some (.int .i64 x) ∧ w.cell? ⟨blk, off + 1, none⟩ = some (.int .i64 y) ∧ w.cell? ⟨blk, off + 2, none⟩ = some (.int .i64 z)) := ⟨hl, c0, c1, c2⟩
  clear hc h hl c0 c1 c2
  have hmm := @run_makeMap Tryz.prog
  have hst : Aside (MapSt w (w.alloc (.map #[] 0)) 0 (.map [])) := mapSt_made w
  obtain ⟨b, hb⟩ : ∃ b, b = (decide (0 ≤ x) && decide (x ≤ y) && decide (y ≤ m)) := ⟨_, rfl⟩
  have hwi := within_calls x y m
  rw [← hb] at hwi ⊢
  clear hb x0 x1 y0 y1 z0 z1
  cases b with
  | false =>
    simp only [Bool.false_and]
    go_enter Tryz.func26, Tryz.ntmps26
    go_wp2_with (first
      | (refine wpList_insert_st hst rfl _ _ _ rfl rfl (by decide) (by decide) (by decide) ?_; clear hst; intro w1 hst)
      | (at_lookup; refine wpList_lookup_own_int _ rfl _ _ 52 rfl 3 3 .i64 lawI Tryz.underlying52 Tryz.underlying3 (zeroI _) w.heap.size _ _ rfl hst.out.1 _ _ rfl (keyOf_int_mk Tryz.underlying3 (by decide)) ?_; intro c hat _; obtain rfl : c = 3 := want_c hat (by rfl); clear hat)
      | fail)
    obtain ⟨hl, c0, c1, c2⟩ := HC.out
    have q0 := (hst.out.2.cell (p := ⟨blk, off, none⟩) (by exact hl)).trans c0
    have q1 := (hst.out.2.cell (p := ⟨blk, off + 1, none⟩) (by exact hl)).trans c1
    have q2 := (hst.out.2.cell (p := ⟨blk, off + 2, none⟩) (by exact hl)).trans c2
    have B : Aside (Below w.heap.size w w1) := hst.out.2
    clear hst HC hl c0 c1 c2
    refine wp_loop_rounds 4 ?_
    rw [rounds_succ]
    go_wp2_with fail
    rw [rounds_succ]
    go_wp2_with fail
    rw [rounds_succ]
    go_wp2_with fail
    rw [rounds_succ]
    go_wp2_with fail
    go_quiet (first | (go_at_call 37; refine Calls.quiet_of_same (hwi _)))
    go_wp2_with fail
    refine bodyPost_ret (results_tmp3 rfl _ _ _) rfl ?_
    exact ⟨rfl, below_drewN' B.out _⟩
  | true =>
    simp only [Bool.true_and]
    by_cases k1 : x ≤ z
    · have d1 : decide (x ≤ z) = true := decide_eq_true k1
      rw [d1]
      clear k1
      simp only [Bool.true_and]
      go_enter Tryz.func26, Tryz.ntmps26
      go_wp2_with (first
        | (refine wpList_insert_st hst rfl _ _ _ rfl rfl (by decide) (by decide) (by decide) ?_; clear hst; intro w1 hst)
        | (at_lookup; refine wpList_lookup_own_int _ rfl _ _ 52 rfl 3 3 .i64 lawI Tryz.underlying52 Tryz.underlying3 (zeroI _) w.heap.size _ _ rfl hst.out.1 _ _ rfl (keyOf_int_mk Tryz.underlying3 (by decide)) ?_; intro c hat _; obtain rfl : c = 3 := want_c hat (by rfl); clear hat)
        | fail)
      obtain ⟨hl, c0, c1, c2⟩ := HC.out
      have q0 := (hst.out.2.cell (p := ⟨blk, off, none⟩) (by exact hl)).trans c0
      have q1 := (hst.out.2.cell (p := ⟨blk, off + 1, none⟩) (by exact hl)).trans c1
      have q2 := (hst.out.2.cell (p := ⟨blk, off + 2, none⟩) (by exact hl)).trans c2
      have B : Aside (Below w.heap.size w w1) := hst.out.2
      clear hst HC hl c0 c1 c2
      refine wp_loop_rounds 4 ?_
      rw [rounds_succ]
      go_wp2_with fail
      rw [rounds_succ]
      go_wp2_with fail
      rw [rounds_succ]
      go_wp2_with fail
      rw [rounds_succ]
      go_wp2_with fail
      go_quiet (first | (go_at_call 37; refine Calls.quiet_of_same (hwi _)))
      go_wp2_with fail
      refine bodyPost_ret (results_tmp3 rfl _ _ _) rfl ?_
      exact ⟨rfl, below_drewN' B.out _⟩
    · have d1 : decide (x ≤ z) = false := decide_eq_false k1
      rw [d1]
      clear k1
      simp only [Bool.false_and]
      go_enter Tryz.func26, Tryz.ntmps26
      go_wp2_with (first
        | (refine wpList_insert_st hst rfl _ _ _ rfl rfl (by decide) (by decide) (by decide) ?_; clear hst; intro w1 hst)
        | (at_lookup; refine wpList_lookup_own_int _ rfl _ _ 52 rfl 3 3 .i64 lawI Tryz.underlying52 Tryz.underlying3 (zeroI _) w.heap.size _ _ rfl hst.out.1 _ _ rfl (keyOf_int_mk Tryz.underlying3 (by decide)) ?_; intro c hat _; obtain rfl : c = 3 := want_c hat (by rfl); clear hat)
        | fail)
      obtain ⟨hl, c0, c1, c2⟩ := HC.out
      have q0 := (hst.out.2.cell (p := ⟨blk, off, none⟩) (by exact hl)).trans c0
      have q1 := (hst.out.2.cell (p := ⟨blk, off + 1, none⟩) (by exact hl)).trans c1
      have q2 := (hst.out.2.cell (p := ⟨blk, off + 2, none⟩) (by exact hl)).trans c2
      have B : Aside (Below w.heap.size w w1) := hst.out.2
      clear hst HC hl c0 c1 c2
      refine wp_loop_rounds 4 ?_
      rw [rounds_succ]
      go_wp2_with fail
      rw [rounds_succ]
      go_wp2_with fail
      rw [rounds_succ]
      go_wp2_with fail
      rw [rounds_succ]
      go_wp2_with fail
      go_quiet (first | (go_at_call 37; refine Calls.quiet_of_same (hwi _)))
      go_wp2_with fail
      refine bodyPost_ret (results_tmp3 rfl _ _ _) rfl ?_
      exact ⟨rfl, below_drewN' B.out _⟩

set_option maxHeartbeats 8000000 in
set_option maxRecDepth 1000000 in
theorem numbers_6 (m : Int) (a : Option Addr) (cap : Nat) (x y : Int) (w : World) (h : RdN w a #[x, y]) (hx : in2k x) (hy : in2k y) :
    Calls Tryz.prog 26 #[.int .i64 6, .int .i64 m, .slice a 2 cap] w fun e w' => e = .returned (.tuple #[.int .i64 (x), .int .i64 (y), .bool ((decide (0 ≤ x) && decide (x ≤ y) && decide (y ≤ m)) && decide (x < y))]) ∧ Below w.heap.size w w' := by
  obtain ⟨x0, x1⟩ := hx
  obtain ⟨y0, y1⟩ := hy
  obtain ⟨blk, off, rfl, hl, hc⟩ := h (by simp)
  have c0 := hc 0 (by simp)
  have c1 := hc 1 (by simp)
  simp at c0 c1
  have hzx : ¬ x < 0 := by omega
  have hyx : ¬ 2000 < x := by omega
  have hzy : ¬ y < 0 := by omega
  have hyy : ¬ 2000 < y := by omega
  have HC : Aside (blk < w.heap.size ∧ w.cell? ⟨blk, off, none⟩ = some (.int .i64 x) ∧ w.cell? ⟨blk, off + 1, none⟩ = some (.int .i64 y)) := ⟨hl, c0, c1⟩
  clear hc h hl c0 c1
  have hmm := @run_makeMap Tryz.prog
  have hst : Aside (MapSt w (w.alloc (.map #[] 0)) 0 (.map [])) := mapSt_made w
  obtain ⟨b, hb⟩ : ∃ b, b = (decide (0 ≤ x) && decide (x ≤ y) && decide (y ≤ m)) := ⟨_, rfl⟩
  have hwi := within_calls x y m
  rw [← hb] at hwi ⊢
  clear hb x0 x1 y0 y1
  cases b with
  | false =>
    simp only [Bool.false_and]
    go_enter Tryz.func26, Tryz.ntmps26
    go_wp2_with (first
      | (refine wpList_insert_st hst rfl _ _ _ rfl rfl (by decide) (by decide) (by decide) ?_; clear hst; intro w1 hst)
      | (at_lookup; refine wpList_lookup_own_int _ rfl _ _ 52 rfl 3 3 .i64 lawI Tryz.underlying52 Tryz.underlying3 (zeroI _) w.heap.size _ _ rfl hst.out.1 _ _ rfl (keyOf_int_mk Tryz.underlying3 (by decide)) ?_; intro c hat _; obtain rfl : c = 2 := want_c hat (by rfl); clear hat)
      | fail)
    obtain ⟨hl, c0, c1⟩ := HC.out
    have q0 := (hst.out.2.cell (p := ⟨blk, off, none⟩) (by exact hl)).trans c0
    have q1 := (hst.out.2.cell (p := ⟨blk, off + 1, none⟩) (by exact hl)).trans c1
    have B : Aside (Below w.heap.size w w1) := hst.out.2
    clear hst HC hl c0 c1
    refine wp_loop_rounds 3 ?_
    rw [rounds_succ]
    go_wp2_with fail
    rw [rounds_succ]
    go_wp2_with fail
    rw [rounds_succ]
    go_wp2_with fail
    go_quiet (first | (go_at_call 37; refine Calls.quiet_of_same (hwi _)))
    go_wp2_with fail
    refine bodyPost_ret (results_tmp3 rfl _ _ _) rfl ?_
    exact ⟨rfl, below_drewN' B.out _⟩
  | true =>
    simp only [Bool.true_and]
    go_enter Tryz.func26, Tryz.ntmps26
    go_wp2_with (first
      | (refine wpList_insert_st hst rfl _ _ _ rfl rfl (by decide) (by decide) (by decide) ?_; clear hst; intro w1 hst)
      | (at_lookup; refine wpList_lookup_own_int _ rfl _ _ 52 rfl 3 3 .i64 lawI Tryz.underlying52 Tryz.underlying3 (zeroI _) w.heap.size _ _ rfl hst.out.1 _ _ rfl (keyOf_int_mk Tryz.underlying3 (by decide)) ?_; intro c hat _; obtain rfl : c = 2 := want_c hat (by rfl); clear hat)
      | fail)
    obtain ⟨hl, c0, c1⟩ := HC.out
    have q0 := (hst.out.2.cell (p := ⟨blk, off, none⟩) (by exact hl)).trans c0
    have q1 := (hst.out.2.cell (p := ⟨blk, off + 1, none⟩) (by exact hl)).trans c1
    have B : Aside (Below w.heap.size w w1) := hst.out.2
    clear hst HC hl c0 c1
    refine wp_loop_rounds 3 ?_
    rw [rounds_succ]
    go_wp2_with fail
    rw [rounds_succ]
    go_wp2_with fail
    rw [rounds_succ]
    go_wp2_with fail
    go_quiet (first | (go_at_call 37; refine Calls.quiet_of_same (hwi _)))
    go_wp2_with fail
    refine bodyPost_ret (results_tmp3 rfl _ _ _) rfl ?_
    exact ⟨rfl, below_drewN' B.out _⟩

set_option maxHeartbeats 8000000 in
set_option maxRecDepth 1000000 in
theorem numbers_8 (m : Int) (a : Option Addr) (cap : Nat) (x y : Int) (w : World) (h : RdN w a #[x, y]) (hx : in2k x) (hy : in2k y) :
    Calls Tryz.prog 26 #[.int .i64 8, .int .i64 m, .slice a 2 cap] w fun e w' => e = .returned (.tuple #[.int .i64 (x), .int .i64 (y), .bool ((decide (0 ≤ x) && decide (x ≤ y) && decide (y ≤ m)) && decide (x < y))]) ∧ Below w.heap.size w w' := by
  obtain ⟨x0, x1⟩ := hx
  obtain ⟨y0, y1⟩ := hy
  obtain ⟨blk, off, rfl, hl, hc⟩ := h (by simp)
  have c0 := hc 0 (by simp)
  have c1 := hc 1 (by simp)
  simp at c0 c1
  have hzx : ¬ x < 0 := by omega
  have hyx : ¬ 2000 < x := by omega
  have hzy : ¬ y < 0 := by omega
  have hyy : ¬ 2000 < y := by omega
  have HC : Aside (blk < w.heap.size ∧ w.cell? ⟨blk, off, none⟩ = some (.int .i64 x) ∧ w.cell? ⟨blk, off + 1, none⟩ = some (.int .i64 y)) := ⟨hl, c0, c1⟩
  clear hc h hl c0 c1
  have hmm := @run_makeMap Tryz.prog
  have hst : Aside (MapSt w (w.alloc (.map #[] 0)) 0 (.map [])) := mapSt_made w
  obtain ⟨b, hb⟩ : ∃ b, b = (decide (0 ≤ x) && decide (x ≤ y) && decide (y ≤ m)) := ⟨_, rfl⟩
  have hwi := within_calls x y m
  rw [← hb] at hwi ⊢
  clear hb x0 x1 y0 y1
  cases b with
  | false =>
    simp only [Bool.false_and]
    go_enter Tryz.func26, Tryz.ntmps26
    go_wp2_with (first
      | (refine wpList_insert_st hst rfl _ _ _ rfl rfl (by decide) (by decide) (by decide) ?_; clear hst; intro w1 hst)
      | (at_lookup; refine wpList_lookup_own_int _ rfl _ _ 52 rfl 3 3 .i64 lawI Tryz.underlying52 Tryz.underlying3 (zeroI _) w.heap.size _ _ rfl hst.out.1 _ _ rfl (keyOf_int_mk Tryz.underlying3 (by decide)) ?_; intro c hat _; obtain rfl : c = 2 := want_c hat (by rfl); clear hat)
      | fail)
    obtain ⟨hl, c0, c1⟩ := HC.out
    have q0 := (hst.out.2.cell (p := ⟨blk, off, none⟩) (by exact hl)).trans c0
    have q1 := (hst.out.2.cell (p := ⟨blk, off + 1, none⟩) (by exact hl)).trans c1
    have B : Aside (Below w.heap.size w w1) := hst.out.2
    clear hst HC hl c0 c1
    refine wp_loop_rounds 3 ?_
    rw [rounds_succ]
    go_wp2_with fail
    rw [rounds_succ]
    go_wp2_with fail
    rw [rounds_succ]
    go_wp2_with fail
    go_quiet (first | (go_at_call 37; refine Calls.quiet_of_same (hwi _)))
    go_wp2_with fail
    refine bodyPost_ret (results_tmp3 rfl _ _ _) rfl ?_
    exact ⟨rfl, below_drewN' B.out _⟩
  | true =>
    simp only [Bool.true_and]
    go_enter Tryz.func26, Tryz.ntmps26
    go_wp2_with (first
      | (refine wpList_insert_st hst rfl _ _ _ rfl rfl (by decide) (by decide) (by decide) ?_; clear hst; intro w1 hst)
      | (at_lookup; refine wpList_lookup_own_int _ rfl _ _ 52 rfl 3 3 .i64 lawI Tryz.underlying52 Tryz.underlying3 (zeroI _) w.heap.size _ _ rfl hst.out.1 _ _ rfl (keyOf_int_mk Tryz.underlying3 (by decide)) ?_; intro c hat _; obtain rfl : c = 2 := want_c hat (by rfl); clear hat)
      | fail)
    obtain ⟨hl, c0, c1⟩ := HC.out
    have q0 := (hst.out.2.cell (p := ⟨blk, off, none⟩) (by exact hl)).trans c0
    have q1 := (hst.out.2.cell (p := ⟨blk, off + 1, none⟩) (by exact hl)).trans c1
    have B : Aside (Below w.heap.size w w1) := hst.out.2
    clear hst HC hl c0 c1
    refine wp_loop_rounds 3 ?_
    rw [rounds_succ]
    go_wp2_with fail
    rw [rounds_succ]
    go_wp2_with fail
    rw [rounds_succ]
    go_wp2_with fail
    go_quiet (first | (go_at_call 37; refine Calls.quiet_of_same (hwi _)))
    go_wp2_with fail
    refine bodyPost_ret (results_tmp3 rfl _ _ _) rfl ?_
    exact ⟨rfl, below_drewN' B.out _⟩

set_option maxHeartbeats 8000000 in
set_option maxRecDepth 1000000 in
theorem numbers_9 (m : Int) (a : Option Addr) (cap : Nat) (x y : Int) (w : World) (h : RdN w a #[x, y]) (hx : in2k x) (hy : in2k y) :
    Calls Tryz.prog 26 #[.int .i64 9, .int .i64 m, .slice a 2 cap] w fun e w' => e = .returned (.tuple #[.int .i64 (0), .int .i64 (0), .bool (decide (x < m) && decide (y < m))]) ∧ Below w.heap.size w w' := by
  obtain ⟨x0, x1⟩ := hx
  obtain ⟨y0, y1⟩ := hy
  obtain ⟨blk, off, rfl, hl, hc⟩ := h (by simp)
  have c0 := hc 0 (by simp)
  have c1 := hc 1 (by simp)
  simp at c0 c1
  have hzx : ¬ x < 0 := by omega
  have hyx : ¬ 2000 < x := by omega
  have hzy : ¬ y < 0 := by omega
  have hyy : ¬ 2000 < y := by omega
  have HC : Aside (blk < w.heap.size ∧ w.cell? ⟨blk, off, none⟩ = some (.int .i64 x) ∧ w.cell? ⟨blk, off + 1, none⟩ = some (.int .i64 y)) := ⟨hl, c0, c1⟩
  clear hc h hl c0 c1
  clear x0 x1 y0 y1
  have hmm := @run_makeMap Tryz.prog
  have hst : Aside (MapSt w (w.alloc (.map #[] 0)) 0 (.map [])) := mapSt_made w
  by_cases k0 : x < m
  · have d0 : decide (x < m) = true := decide_eq_true k0
    rw [d0]
    clear k0
    simp only [Bool.true_and]
    go_enter Tryz.func26, Tryz.ntmps26
    go_wp2_with (first
      | (refine wpList_insert_st hst rfl _ _ _ rfl rfl (by decide) (by decide) (by decide) ?_; clear hst; intro w1 hst)
      | (at_lookup; refine wpList_lookup_own_int _ rfl _ _ 52 rfl 3 3 .i64 lawI Tryz.underlying52 Tryz.underlying3 (zeroI _) w.heap.size _ _ rfl hst.out.1 _ _ rfl (keyOf_int_mk Tryz.underlying3 (by decide)) ?_; intro c hat _; obtain rfl : c = 2 := want_c hat (by rfl); clear hat)
      | fail)
    obtain ⟨hl, c0, c1⟩ := HC.out
    have q0 := (hst.out.2.cell (p := ⟨blk, off, none⟩) (by exact hl)).trans c0
    have q1 := (hst.out.2.cell (p := ⟨blk, off + 1, none⟩) (by exact hl)).trans c1
    have B : Aside (Below w.heap.size w w1) := hst.out.2
    clear hst HC hl c0 c1
    refine wp_loop_rounds 3 ?_
    rw [rounds_succ]
    go_wp2_with fail
    rw [rounds_succ]
    go_wp2_with fail
    rw [rounds_succ]
    go_wp2_with fail
    go_quiet (fail)
    go_wp2_with fail
    refine bodyPost_ret (results_tmp3 rfl _ _ _) rfl ?_
    exact ⟨rfl, below_drewN' B.out _⟩
  · have d0 : decide (x < m) = false := decide_eq_false k0
    rw [d0]
    clear k0
    simp only [Bool.false_and]
    go_enter Tryz.func26, Tryz.ntmps26
    go_wp2_with (first
      | (refine wpList_insert_st hst rfl _ _ _ rfl rfl (by decide) (by decide) (by decide) ?_; clear hst; intro w1 hst)
      | (at_lookup; refine wpList_lookup_own_int _ rfl _ _ 52 rfl 3 3 .i64 lawI Tryz.underlying52 Tryz.underlying3 (zeroI _) w.heap.size _ _ rfl hst.out.1 _ _ rfl (keyOf_int_mk Tryz.underlying3 (by decide)) ?_; intro c hat _; obtain rfl : c = 2 := want_c hat (by rfl); clear hat)
      | fail)
    obtain ⟨hl, c0, c1⟩ := HC.out
    have q0 := (hst.out.2.cell (p := ⟨blk, off, none⟩) (by exact hl)).trans c0
    have q1 := (hst.out.2.cell (p := ⟨blk, off + 1, none⟩) (by exact hl)).trans c1
    have B : Aside (Below w.heap.size w w1) := hst.out.2
    clear hst HC hl c0 c1
    refine wp_loop_rounds 3 ?_
    rw [rounds_succ]
    go_wp2_with fail
    rw [rounds_succ]
    go_wp2_with fail
    rw [rounds_succ]
    go_wp2_with fail
    go_quiet (fail)
    go_wp2_with fail
    refine bodyPost_ret (results_tmp3 rfl _ _ _) rfl ?_
    exact ⟨rfl, below_drewN' B.out _⟩
end Go.Proofs.YtglgmkikegbchaaGreat

/- spec.Numbers (printed by gen/numbers.py). -/
namespace Go.Proofs.YtglgmkikegbchaaGreat
open Go.RowKit Go.Sort Go.Maps

set_option maxHeartbeats 8000000 in
set_option maxRecDepth 1000000 in
theorem numbers_15 (m : Int) (a : Option Addr) (cap : Nat) (x y z : Int) (w : World) (h : RdN w a #[x, y, z]) (hx : in2k x) (hy : in2k y) (hz : in2k z) :
    Calls Tryz.prog 26 #[.int .i64 15, .int .i64 m, .slice a 3 cap] w fun e w' => e = .returned (.tuple #[.int .i64 (x), .int .i64 (z), .bool (decide (x < y) && decide (y < z) && decide (z ≤ m))]) ∧ Below w.heap.size w w' := by
  obtain ⟨x0, x1⟩ := hx
  obtain ⟨y0, y1⟩ := hy
  obtain ⟨z0, z1⟩ := hz
  obtain ⟨blk, off, rfl, hl, hc⟩ := h (by simp)
  have c0 := hc 0 (by simp)
  have c1 := hc 1 (by simp)
  have c2 := hc 2 (by simp)
  simp at c0 c1 c2
  have hzx : ¬ x < 0 := by omega
  have hyx : ¬ 2000 < x := by omega
  have hzy : ¬ y < 0 := by omega
  have hyy : ¬ 2000 < y := by omega
  have hzz : ¬ z < 0 := by omega
  have hyz : ¬ 2000 < z := by omega
  have HC : Aside (blk < w.heap.size ∧ w.cell? ⟨blk, off, none⟩ = some (.int .i64 x) ∧ w.cell? ⟨blk, off + 1, none⟩ = some (.int .i64 y) ∧ w.cell? ⟨blk, off + 2, none⟩ = some (.int .i64 z)) := ⟨hl, c0, c1, c2⟩
  clear hc h hl c0 c1 c2
  clear x0 x1 y0 y1 z0 z1
  have hmm := @run_makeMap Tryz.prog
  have hst : Aside (MapSt w (w.alloc (.map #[] 0)) 0 (.map [])) := mapSt_made w
  by_cases k0 : x < y
  · have d0 : decide (x < y) = true := decide_eq_true k0
    rw [d0]
    clear k0
    simp only [Bool.true_and]
    by_cases k1 : y < z
    · have d1 : decide (y < z) = true := decide_eq_true k1
      rw [d1]
      clear k1
      simp only [Bool.true_and]
      go_enter Tryz.func26, Tryz.ntmps26
      go_wp2_with (first
        | (refine wpList_insert_st hst rfl _ _ _ rfl rfl (by decide) (by decide) (by decide) ?_; clear hst; intro w1 hst)
        | (at_lookup; refine wpList_lookup_own_int _ rfl _ _ 52 rfl 3 3 .i64 lawI Tryz.underlying52 Tryz.underlying3 (zeroI _) w.heap.size _ _ rfl hst.out.1 _ _ rfl (keyOf_int_mk Tryz.underlying3 (by decide)) ?_; intro c hat _; obtain rfl : c = 3 := want_c hat (by rfl); clear hat)
        | fail)
      obtain ⟨hl, c0, c1, c2⟩ := HC.out
      have q0 := (hst.out.2.cell (p := ⟨blk, off, none⟩) (by exact hl)).trans c0
      have q1 := (hst.out.2.cell (p := ⟨blk, off + 1, none⟩) (by exact hl)).trans c1
      have q2 := (hst.out.2.cell (p := ⟨blk, off + 2, none⟩) (by exact hl)).trans c2
      have B : Aside (Below w.heap.size w w1) := hst.out.2
      clear hst HC hl c0 c1 c2
      refine wp_loop_rounds 4 ?_
      rw [rounds_succ]
      go_wp2_with fail
      rw [rounds_succ]
      go_wp2_with fail
      rw [rounds_succ]
      go_wp2_with fail
      rw [rounds_succ]
      go_wp2_with fail
      go_quiet (fail)
      go_wp2_with fail
      refine bodyPost_ret (results_tmp3 rfl _ _ _) rfl ?_
      exact ⟨rfl, below_drewN' B.out _⟩
    · have d1 : decide (y < z) = false := decide_eq_false k1
      rw [d1]
      clear k1
      simp only [Bool.false_and]
      go_enter Tryz.func26, Tryz.ntmps26
      go_wp2_with (first
        | (refine wpList_insert_st hst rfl _ _ _ rfl rfl (by decide) (by decide) (by decide) ?_; clear hst; intro w1 hst)
        | (at_lookup; refine wpList_lookup_own_int _ rfl _ _ 52 rfl 3 3 .i64 lawI Tryz.underlying52 Tryz.underlying3 (zeroI _) w.heap.size _ _ rfl hst.out.1 _ _ rfl (keyOf_int_mk Tryz.underlying3 (by decide)) ?_; intro c hat _; obtain rfl : c = 3 := want_c hat (by rfl); clear hat)
        | fail)
      obtain ⟨hl, c0, c1, c2⟩ := HC.out
      have q0 := (hst.out.2.cell (p := ⟨blk, off, none⟩) (by exact hl)).trans c0
      have q1 := (hst.out.2.cell (p := ⟨blk, off + 1, none⟩) (by exact hl)).trans c1
      have q2 := (hst.out.2.cell (p := ⟨blk, off + 2, none⟩) (by exact hl)).trans c2
      have B : Aside (Below w.heap.size w w1) := hst.out.2
      clear hst HC hl c0 c1 c2
      refine wp_loop_rounds 4 ?_
      rw [rounds_succ]
      go_wp2_with fail
      rw [rounds_succ]
      go_wp2_with fail
      rw [rounds_succ]
      go_wp2_with fail
      rw [rounds_succ]
      go_wp2_with fail
      go_quiet (fail)
      go_wp2_with fail
      refine bodyPost_ret (results_tmp3 rfl _ _ _) rfl ?_
      exact ⟨rfl, below_drewN' B.out _⟩
  · have d0 : decide (x < y) = false := decide_eq_false k0
    rw [d0]
    clear k0
    simp only [Bool.false_and]
    go_enter Tryz.func26, Tryz.ntmps26
    go_wp2_with (first
      | (refine wpList_insert_st hst rfl _ _ _ rfl rfl (by decide) (by decide) (by decide) ?_; clear hst; intro w1 hst)
      | (at_lookup; refine wpList_lookup_own_int _ rfl _ _ 52 rfl 3 3 .i64 lawI Tryz.underlying52 Tryz.underlying3 (zeroI _) w.heap.size _ _ rfl hst.out.1 _ _ rfl (keyOf_int_mk Tryz.underlying3 (by decide)) ?_; intro c hat _; obtain rfl : c = 3 := want_c hat (by rfl); clear hat)
      | fail)
    obtain ⟨hl, c0, c1, c2⟩ := HC.out
    have q0 := (hst.out.2.cell (p := ⟨blk, off, none⟩) (by exact hl)).trans c0
    have q1 := (hst.out.2.cell (p := ⟨blk, off + 1, none⟩) (by exact hl)).trans c1
    have q2 := (hst.out.2.cell (p := ⟨blk, off + 2, none⟩) (by exact hl)).trans c2
    have B : Aside (Below w.heap.size w w1) := hst.out.2
    clear hst HC hl c0 c1 c2
    refine wp_loop_rounds 4 ?_
    rw [rounds_succ]
    go_wp2_with fail
    rw [rounds_succ]
    go_wp2_with fail
    rw [rounds_succ]
    go_wp2_with fail
    rw [rounds_succ]
    go_wp2_with fail
    go_quiet (fail)
    go_wp2_with fail
    refine bodyPost_ret (results_tmp3 rfl _ _ _) rfl ?_
    exact ⟨rfl, below_drewN' B.out _⟩

set_option maxHeartbeats 8000000 in
set_option maxRecDepth 1000000 in
theorem numbers_16 (m : Int) (a : Option Addr) (cap : Nat) (x y z : Int) (w : World) (h : RdN w a #[x, y, z]) (hx : in2k x) (hy : in2k y) (hz : in2k z) :
    Calls Tryz.prog 26 #[.int .i64 16, .int .i64 m, .slice a 3 cap] w fun e w' => e = .returned (.tuple #[.int .i64 (x), .int .i64 (z), .bool (decide (x < y) && decide (y < z) && decide (z ≤ m))]) ∧ Below w.heap.size w w' := by
  obtain ⟨x0, x1⟩ := hx
  obtain ⟨y0, y1⟩ := hy
  obtain ⟨z0, z1⟩ := hz
  obtain ⟨blk, off, rfl, hl, hc⟩ := h (by simp)
  have c0 := hc 0 (by simp)
  have c1 := hc 1 (by simp)
  have c2 := hc 2 (by simp)
  simp at c0 c1 c2
  have hzx : ¬ x < 0 := by omega
  have hyx : ¬ 2000 < x := by omega
  have hzy : ¬ y < 0 := by omega
  have hyy : ¬ 2000 < y := by omega
  have hzz : ¬ z < 0 := by omega
  have hyz : ¬ 2000 < z := by omega
  have HC : Aside (blk < w.heap.size ∧ w.cell? ⟨blk, off, none⟩ = some (.int .i64 x) ∧ w.cell? ⟨blk, off + 1, none⟩ = some (.int .i64 y) ∧ w.cell? ⟨blk, off + 2, none⟩ = some (.int .i64 z)) := ⟨hl, c0, c1, c2⟩
  clear hc h hl c0 c1 c2
  clear x0 x1 y0 y1 z0 z1
  have hmm := @run_makeMap Tryz.prog
  have hst : Aside (MapSt w (w.alloc (.map #[] 0)) 0 (.map [])) := mapSt_made w
  by_cases k0 : x < y
  · have d0 : decide (x < y) = true := decide_eq_true k0
    rw [d0]
    clear k0
    simp only [Bool.true_and]
    by_cases k1 : y < z
    · have d1 : decide (y < z) = true := decide_eq_true k1
      rw [d1]
      clear k1
      simp only [Bool.true_and]
      go_enter Tryz.func26, Tryz.ntmps26
      go_wp2_with (first
        | (refine wpList_insert_st hst rfl _ _ _ rfl rfl (by decide) (by decide) (by decide) ?_; clear hst; intro w1 hst)
        | (at_lookup; refine wpList_lookup_own_int _ rfl _ _ 52 rfl 3 3 .i64 lawI Tryz.underlying52 Tryz.underlying3 (zeroI _) w.heap.size _ _ rfl hst.out.1 _ _ rfl (keyOf_int_mk Tryz.underlying3 (by decide)) ?_; intro c hat _; obtain rfl : c = 3 := want_c hat (by rfl); clear hat)
        | fail)
      obtain ⟨hl, c0, c1, c2⟩ := HC.out
      have q0 := (hst.out.2.cell (p := ⟨blk, off, none⟩) (by exact hl)).trans c0
      have q1 := (hst.out.2.cell (p := ⟨blk, off + 1, none⟩) (by exact hl)).trans c1
      have q2 := (hst.out.2.cell (p := ⟨blk, off + 2, none⟩) (by exact hl)).trans c2
      have B : Aside (Below w.heap.size w w1) := hst.out.2
      clear hst HC hl c0 c1 c2
      refine wp_loop_rounds 4 ?_
      rw [rounds_succ]
      go_wp2_with fail
      rw [rounds_succ]
      go_wp2_with fail
      rw [rounds_succ]
      go_wp2_with fail
      rw [rounds_succ]
      go_wp2_with fail
      go_quiet (fail)
      go_wp2_with fail
      refine bodyPost_ret (results_tmp3 rfl _ _ _) rfl ?_
      exact ⟨rfl, below_drewN' B.out _⟩
    · have d1 : decide (y < z) = false := decide_eq_false k1
      rw [d1]
      clear k1
      simp only [Bool.false_and]
      go_enter Tryz.func26, Tryz.ntmps26
      go_wp2_with (first
        | (refine wpList_insert_st hst rfl _ _ _ rfl rfl (by decide) (by decide) (by decide) ?_; clear hst; intro w1 hst)
        | (at_lookup; refine wpList_lookup_own_int _ rfl _ _ 52 rfl 3 3 .i64 lawI Tryz.underlying52 Tryz.underlying3 (zeroI _) w.heap.size _ _ rfl hst.out.1 _ _ rfl (keyOf_int_mk Tryz.underlying3 (by decide)) ?_; intro c hat _; obtain rfl : c = 3 := want_c hat (by rfl); clear hat)
        | fail)
      obtain ⟨hl, c0, c1, c2⟩ := HC.out
      have q0 := (hst.out.2.cell (p := ⟨blk, off, none⟩) (by exact hl)).trans c0
      have q1 := (hst.out.2.cell (p := ⟨blk, off + 1, none⟩) (by exact hl)).trans c1
      have q2 := (hst.out.2.cell (p := ⟨blk, off + 2, none⟩) (by exact hl)).trans c2
      have B : Aside (Below w.heap.size w w1) := hst.out.2
      clear hst HC hl c0 c1 c2
      refine wp_loop_rounds 4 ?_
      rw [rounds_succ]
      go_wp2_with fail
      rw [rounds_succ]
      go_wp2_with fail
      rw [rounds_succ]
      go_wp2_with fail
      rw [rounds_succ]
      go_wp2_with fail
      go_quiet (fail)
      go_wp2_with fail
      refine bodyPost_ret (results_tmp3 rfl _ _ _) rfl ?_
      exact ⟨rfl, below_drewN' B.out _⟩
  · have d0 : decide (x < y) = false := decide_eq_false k0
    rw [d0]
    clear k0
    simp only [Bool.false_and]
    go_enter Tryz.func26, Tryz.ntmps26
    go_wp2_with (first
      | (refine wpList_insert_st hst rfl _ _ _ rfl rfl (by decide) (by decide) (by decide) ?_; clear hst; intro w1 hst)
      | (at_lookup; refine wpList_lookup_own_int _ rfl _ _ 52 rfl 3 3 .i64 lawI Tryz.underlying52 Tryz.underlying3 (zeroI _) w.heap.size _ _ rfl hst.out.1 _ _ rfl (keyOf_int_mk Tryz.underlying3 (by decide)) ?_; intro c hat _; obtain rfl : c = 3 := want_c hat (by rfl); clear hat)
      | fail)
    obtain ⟨hl, c0, c1, c2⟩ := HC.out
    have q0 := (hst.out.2.cell (p := ⟨blk, off, none⟩) (by exact hl)).trans c0
    have q1 := (hst.out.2.cell (p := ⟨blk, off + 1, none⟩) (by exact hl)).trans c1
    have q2 := (hst.out.2.cell (p := ⟨blk, off + 2, none⟩) (by exact hl)).trans c2
    have B : Aside (Below w.heap.size w w1) := hst.out.2
    clear hst HC hl c0 c1 c2
    refine wp_loop_rounds 4 ?_
    rw [rounds_succ]
    go_wp2_with fail
    rw [rounds_succ]
    go_wp2_with fail
    rw [rounds_succ]
    go_wp2_with fail
    rw [rounds_succ]
    go_wp2_with fail
    go_quiet (fail)
    go_wp2_with fail
    refine bodyPost_ret (results_tmp3 rfl _ _ _) rfl ?_
    exact ⟨rfl, below_drewN' B.out _⟩
end Go.Proofs.YtglgmkikegbchaaGreat

/- spec.Numbers of each function, whatever its numbers (printed by gen/numok.py). -/
namespace Go.Proofs.YtglgmkikegbchaaGreat
open Go.RowKit Go.Sort

theorem numok_0 (m : Nat) (x y : Int) : ∃ OK : Bool, (OK = true → ∃ X Y : Nat, x = X ∧ y = Y ∧ X ≤ 2000 ∧ Y ≤ 2000 ∧ (X ≤ Y ∧ Y ≤ m)) ∧
    ∀ (na : Option Addr) (ncap : Nat) (W : World), RdN W na #[x, y] → Calls Tryz.prog 26 #[.int .i64 0, .int .i64 m, .slice na 2 ncap] W fun e w' => ∃ u v, e = .returned (.tuple #[u, v, .bool OK]) ∧ (OK = true → ∀ X Y : Nat, x = X → y = Y → u = .int .i64 ((X : Nat) : Int) ∧ v = .int .i64 ((Y : Nat) : Int)) ∧ Below W.heap.size W w' := by
  by_cases h : in2k x ∧ in2k y
  · refine ⟨_, ?_, fun na ncap W hN => (numbers_0 m na ncap x y W hN h.1 h.2).mono fun e w' ⟨h1, h2⟩ => ⟨_, _, h1, ?_, h2⟩⟩
    · intro e
      simp only [Bool.and_eq_true, decide_eq_true_eq] at e
      obtain ⟨⟨x0, x1⟩, ⟨y0, y1⟩⟩ := h
      obtain ⟨X, rfl⟩ := Int.eq_ofNat_of_zero_le x0
      obtain ⟨Y, rfl⟩ := Int.eq_ofNat_of_zero_le y0
      exact ⟨X, Y, rfl, rfl, by omega, by omega, by omega⟩
    · intro _ X Y ex ey
      subst ex ey
      exact ⟨by congr 1; try omega, by congr 1; try omega⟩
  · refine ⟨false, fun e => (by cases e), fun na ncap W hN => (numbers_bad 0 m na ncap 2 #[x, y] W hN rfl (by decide) (by decide) (Or.inr (Or.inr (Or.inr ?_)))).mono fun e w' ⟨h1, h2⟩ => ⟨_, _, h1, fun e => (by cases e), h2⟩⟩
    by_cases hx : in2k x
    · exact ⟨1, by omega, fun hy => h ⟨hx, hy⟩⟩
    · exact ⟨0, by omega, hx⟩

theorem numok_1 (m : Nat) (x y z : Int) : ∃ OK : Bool, (OK = true → ∃ X Y Z : Nat, x = X ∧ y = Y ∧ z = Z ∧ X ≤ 2000 ∧ Y ≤ 2000 ∧ Z ≤ 2000 ∧ (X < Y ∧ Z + Y ≤ m)) ∧
    ∀ (na : Option Addr) (ncap : Nat) (W : World), RdN W na #[x, y, z] → Calls Tryz.prog 26 #[.int .i64 1, .int .i64 m, .slice na 3 ncap] W fun e w' => ∃ u v, e = .returned (.tuple #[u, v, .bool OK]) ∧ (OK = true → ∀ X Y Z : Nat, x = X → y = Y → z = Z → u = .int .i64 ((Z : Nat) : Int) ∧ v = .int .i64 ((Z + Y : Nat) : Int)) ∧ Below W.heap.size W w' := by
  by_cases h : in2k x ∧ in2k y ∧ in2k z
  · refine ⟨_, ?_, fun na ncap W hN => (numbers_1 m na ncap x y z W hN h.1 h.2.1 h.2.2).mono fun e w' ⟨h1, h2⟩ => ⟨_, _, h1, ?_, h2⟩⟩
    · intro e
      simp only [Bool.and_eq_true, decide_eq_true_eq] at e
      obtain ⟨⟨x0, x1⟩, ⟨y0, y1⟩, ⟨z0, z1⟩⟩ := h
      obtain ⟨X, rfl⟩ := Int.eq_ofNat_of_zero_le x0
      obtain ⟨Y, rfl⟩ := Int.eq_ofNat_of_zero_le y0
      obtain ⟨Z, rfl⟩ := Int.eq_ofNat_of_zero_le z0
      exact ⟨X, Y, Z, rfl, rfl, rfl, by omega, by omega, by omega, by omega⟩
    · intro _ X Y Z ex ey ez
      subst ex ey ez
      exact ⟨by congr 1; try omega, by congr 1; try omega⟩
  · refine ⟨false, fun e => (by cases e), fun na ncap W hN => (numbers_bad 1 m na ncap 3 #[x, y, z] W hN rfl (by decide) (by decide) (Or.inr (Or.inr (Or.inr ?_)))).mono fun e w' ⟨h1, h2⟩ => ⟨_, _, h1, fun e => (by cases e), h2⟩⟩
    by_cases hx : in2k x
    · by_cases hy : in2k y
      · exact ⟨2, by omega, fun hz => h ⟨hx, hy, hz⟩⟩
      · exact ⟨1, by omega, hy⟩
    · exact ⟨0, by omega, hx⟩

theorem numok_2 (m : Nat) (x y : Int) : ∃ OK : Bool, (OK = true → ∃ X Y : Nat, x = X ∧ y = Y ∧ X ≤ 2000 ∧ Y ≤ 2000 ∧ (X ≤ Y ∧ Y ≤ m)) ∧
    ∀ (na : Option Addr) (ncap : Nat) (W : World), RdN W na #[x, y] → Calls Tryz.prog 26 #[.int .i64 2, .int .i64 m, .slice na 2 ncap] W fun e w' => ∃ u v, e = .returned (.tuple #[u, v, .bool OK]) ∧ (OK = true → ∀ X Y : Nat, x = X → y = Y → u = .int .i64 ((X : Nat) : Int) ∧ v = .int .i64 ((Y : Nat) : Int)) ∧ Below W.heap.size W w' := by
  by_cases h : in2k x ∧ in2k y
  · refine ⟨_, ?_, fun na ncap W hN => (numbers_2 m na ncap x y W hN h.1 h.2).mono fun e w' ⟨h1, h2⟩ => ⟨_, _, h1, ?_, h2⟩⟩
    · intro e
      simp only [Bool.and_eq_true, decide_eq_true_eq] at e
      obtain ⟨⟨x0, x1⟩, ⟨y0, y1⟩⟩ := h
      obtain ⟨X, rfl⟩ := Int.eq_ofNat_of_zero_le x0
      obtain ⟨Y, rfl⟩ := Int.eq_ofNat_of_zero_le y0
      exact ⟨X, Y, rfl, rfl, by omega, by omega, by omega⟩
    · intro _ X Y ex ey
      subst ex ey
      exact ⟨by congr 1; try omega, by congr 1; try omega⟩
  · refine ⟨false, fun e => (by cases e), fun na ncap W hN => (numbers_bad 2 m na ncap 2 #[x, y] W hN rfl (by decide) (by decide) (Or.inr (Or.inr (Or.inr ?_)))).mono fun e w' ⟨h1, h2⟩ => ⟨_, _, h1, fun e => (by cases e), h2⟩⟩
    by_cases hx : in2k x
    · exact ⟨1, by omega, fun hy => h ⟨hx, hy⟩⟩
    · exact ⟨0, by omega, hx⟩

theorem numok_3 (m : Nat) (x y z : Int) : ∃ OK : Bool, (OK = true → ∃ X Y Z : Nat, x = X ∧ y = Y ∧ z = Z ∧ X ≤ 2000 ∧ Y ≤ 2000 ∧ Z ≤ 2000 ∧ (X ≤ Y ∧ Y ≤ m ∧ Z ≤ 64)) ∧
    ∀ (na : Option Addr) (ncap : Nat) (W : World), RdN W na #[x, y, z] → Calls Tryz.prog 26 #[.int .i64 3, .int .i64 m, .slice na 3 ncap] W fun e w' => ∃ u v, e = .returned (.tuple #[u, v, .bool OK]) ∧ (OK = true → ∀ X Y Z : Nat, x = X → y = Y → z = Z → u = .int .i64 ((X : Nat) : Int) ∧ v = .int .i64 ((Y : Nat) : Int)) ∧ Below W.heap.size W w' := by
  by_cases h : in2k x ∧ in2k y ∧ in2k z
  · refine ⟨_, ?_, fun na ncap W hN => (numbers_3 m na ncap x y z W hN h.1 h.2.1 h.2.2).mono fun e w' ⟨h1, h2⟩ => ⟨_, _, h1, ?_, h2⟩⟩
    · intro e
      simp only [Bool.and_eq_true, decide_eq_true_eq] at e
      obtain ⟨⟨x0, x1⟩, ⟨y0, y1⟩, ⟨z0, z1⟩⟩ := h
      obtain ⟨X, rfl⟩ := Int.eq_ofNat_of_zero_le x0
      obtain ⟨Y, rfl⟩ := Int.eq_ofNat_of_zero_le y0
      obtain ⟨Z, rfl⟩ := Int.eq_ofNat_of_zero_le z0
      exact ⟨X, Y, Z, rfl, rfl, rfl, by omega, by omega, by omega, by omega⟩
    · intro _ X Y Z ex ey ez
      subst ex ey ez
      exact ⟨by congr 1; try omega, by congr 1; try omega⟩
  · refine ⟨false, fun e => (by cases e), fun na ncap W hN => (numbers_bad 3 m na ncap 3 #[x, y, z] W hN rfl (by decide) (by decide) (Or.inr (Or.inr (Or.inr ?_)))).mono fun e w' ⟨h1, h2⟩ => ⟨_, _, h1, fun e => (by cases e), h2⟩⟩
    by_cases hx : in2k x
    · by_cases hy : in2k y
      · exact ⟨2, by omega, fun hz => h ⟨hx, hy, hz⟩⟩
      · exact ⟨1, by omega, hy⟩
    · exact ⟨0, by omega, hx⟩

theorem numok_4 (m : Nat) (x y z : Int) : ∃ OK : Bool, (OK = true → ∃ X Y Z : Nat, x = X ∧ y = Y ∧ z = Z ∧ X ≤ 2000 ∧ Y ≤ 2000 ∧ Z ≤ 2000 ∧ (X ≤ Y ∧ Y ≤ m ∧ X ≤ Z ∧ Z < Y)) ∧
    ∀ (na : Option Addr) (ncap : Nat) (W : World), RdN W na #[x, y, z] → Calls Tryz.prog 26 #[.int .i64 4, .int .i64 m, .slice na 3 ncap] W fun e w' => ∃ u v, e = .returned (.tuple #[u, v, .bool OK]) ∧ (OK = true → ∀ X Y Z : Nat, x = X → y = Y → z = Z → u = .int .i64 ((X : Nat) : Int) ∧ v = .int .i64 ((Y : Nat) : Int)) ∧ Below W.heap.size W w' := by
  by_cases h : in2k x ∧ in2k y ∧ in2k z
  · refine ⟨_, ?_, fun na ncap W hN => (numbers_4 m na ncap x y z W hN h.1 h.2.1 h.2.2).mono fun e w' ⟨h1, h2⟩ => ⟨_, _, h1, ?_, h2⟩⟩
    · intro e
      simp only [Bool.and_eq_true, decide_eq_true_eq] at e
      obtain ⟨⟨x0, x1⟩, ⟨y0, y1⟩, ⟨z0, z1⟩⟩ := h
      obtain ⟨X, rfl⟩ := Int.eq_ofNat_of_zero_le x0
      obtain ⟨Y, rfl⟩ := Int.eq_ofNat_of_zero_le y0
      obtain ⟨Z, rfl⟩ := Int.eq_ofNat_of_zero_le z0
      exact ⟨X, Y, Z, rfl, rfl, rfl, by omega, by omega, by omega, by omega⟩
    · intro _ X Y Z ex ey ez
      subst ex ey ez
      exact ⟨by congr 1; try omega, by congr 1; try omega⟩
  · refine ⟨false, fun e => (by cases e), fun na ncap W hN => (numbers_bad 4 m na ncap 3 #[x, y, z] W hN rfl (by decide) (by decide) (Or.inr (Or.inr (Or.inr ?_)))).mono fun e w' ⟨h1, h2⟩ => ⟨_, _, h1, fun e => (by cases e), h2⟩⟩
    by_cases hx : in2k x
    · by_cases hy : in2k y
      · exact ⟨2, by omega, fun hz => h ⟨hx, hy, hz⟩⟩
      · exact ⟨1, by omega, hy⟩
    · exact ⟨0, by omega, hx⟩

theorem numok_5 (m : Nat) (x y z : Int) : ∃ OK : Bool, (OK = true → ∃ X Y Z : Nat, x = X ∧ y = Y ∧ z = Z ∧ X ≤ 2000 ∧ Y ≤ 2000 ∧ Z ≤ 2000 ∧ (X ≤ Y ∧ Y ≤ m ∧ X ≤ Z ∧ Z < Y)) ∧
    ∀ (na : Option Addr) (ncap : Nat) (W : World), RdN W na #[x, y, z] → Calls Tryz.prog 26 #[.int .i64 5, .int .i64 m, .slice na 3 ncap] W fun e w' => ∃ u v, e = .returned (.tuple #[u, v, .bool OK]) ∧ (OK = true → ∀ X Y Z : Nat, x = X → y = Y → z = Z → u = .int .i64 ((X : Nat) : Int) ∧ v = .int .i64 ((Y : Nat) : Int)) ∧ Below W.heap.size W w' := by
  by_cases h : in2k x ∧ in2k y ∧ in2k z
  · refine ⟨_, ?_, fun na ncap W hN => (numbers_5 m na ncap x y z W hN h.1 h.2.1 h.2.2).mono fun e w' ⟨h1, h2⟩ => ⟨_, _, h1, ?_, h2⟩⟩
    · intro e
      simp only [Bool.and_eq_true, decide_eq_true_eq] at e
      obtain ⟨⟨x0, x1⟩, ⟨y0, y1⟩, ⟨z0, z1⟩⟩ := h
      obtain ⟨X, rfl⟩ := Int.eq_ofNat_of_zero_le x0
      obtain ⟨Y, rfl⟩ := Int.eq_ofNat_of_zero_le y0
      obtain ⟨Z, rfl⟩ := Int.eq_ofNat_of_zero_le z0
      exact ⟨X, Y, Z, rfl, rfl, rfl, by omega, by omega, by omega, by omega⟩
    · intro _ X Y Z ex ey ez
      subst ex ey ez
      exact ⟨by congr 1; try omega, by congr 1; try omega⟩
  · refine ⟨false, fun e => (by cases e), fun na ncap W hN => (numbers_bad 5 m na ncap 3 #[x, y, z] W hN rfl (by decide) (by decide) (Or.inr (Or.inr (Or.inr ?_)))).mono fun e w' ⟨h1, h2⟩ => ⟨_, _, h1, fun e => (by cases e), h2⟩⟩
    by_cases hx : in2k x
    · by_cases hy : in2k y
      · exact ⟨2, by omega, fun hz => h ⟨hx, hy, hz⟩⟩
      · exact ⟨1, by omega, hy⟩
    · exact ⟨0, by omega, hx⟩

theorem numok_6 (m : Nat) (x y : Int) : ∃ OK : Bool, (OK = true → ∃ X Y : Nat, x = X ∧ y = Y ∧ X ≤ 2000 ∧ Y ≤ 2000 ∧ (X < Y ∧ Y ≤ m)) ∧
    ∀ (na : Option Addr) (ncap : Nat) (W : World), RdN W na #[x, y] → Calls Tryz.prog 26 #[.int .i64 6, .int .i64 m, .slice na 2 ncap] W fun e w' => ∃ u v, e = .returned (.tuple #[u, v, .bool OK]) ∧ (OK = true → ∀ X Y : Nat, x = X → y = Y → u = .int .i64 ((X : Nat) : Int) ∧ v = .int .i64 ((Y : Nat) : Int)) ∧ Below W.heap.size W w' := by
  by_cases h : in2k x ∧ in2k y
  · refine ⟨_, ?_, fun na ncap W hN => (numbers_6 m na ncap x y W hN h.1 h.2).mono fun e w' ⟨h1, h2⟩ => ⟨_, _, h1, ?_, h2⟩⟩
    · intro e
      simp only [Bool.and_eq_true, decide_eq_true_eq] at e
      obtain ⟨⟨x0, x1⟩, ⟨y0, y1⟩⟩ := h
      obtain ⟨X, rfl⟩ := Int.eq_ofNat_of_zero_le x0
      obtain ⟨Y, rfl⟩ := Int.eq_ofNat_of_zero_le y0
      exact ⟨X, Y, rfl, rfl, by omega, by omega, by omega⟩
    · intro _ X Y ex ey
      subst ex ey
      exact ⟨by congr 1; try omega, by congr 1; try omega⟩
  · refine ⟨false, fun e => (by cases e), fun na ncap W hN => (numbers_bad 6 m na ncap 2 #[x, y] W hN rfl (by decide) (by decide) (Or.inr (Or.inr (Or.inr ?_)))).mono fun e w' ⟨h1, h2⟩ => ⟨_, _, h1, fun e => (by cases e), h2⟩⟩
    by_cases hx : in2k x
    · exact ⟨1, by omega, fun hy => h ⟨hx, hy⟩⟩
    · exact ⟨0, by omega, hx⟩

theorem numok_7 (m : Nat) (x y : Int) : ∃ OK : Bool, (OK = true → ∃ X Y : Nat, x = X ∧ y = Y ∧ X ≤ 2000 ∧ Y ≤ 2000 ∧ (X ≤ Y ∧ Y ≤ m)) ∧
    ∀ (na : Option Addr) (ncap : Nat) (W : World), RdN W na #[x, y] → Calls Tryz.prog 26 #[.int .i64 7, .int .i64 m, .slice na 2 ncap] W fun e w' => ∃ u v, e = .returned (.tuple #[u, v, .bool OK]) ∧ (OK = true → ∀ X Y : Nat, x = X → y = Y → u = .int .i64 ((X : Nat) : Int) ∧ v = .int .i64 ((Y : Nat) : Int)) ∧ Below W.heap.size W w' := by
  by_cases h : in2k x ∧ in2k y
  · refine ⟨_, ?_, fun na ncap W hN => (numbers_7 m na ncap x y W hN h.1 h.2).mono fun e w' ⟨h1, h2⟩ => ⟨_, _, h1, ?_, h2⟩⟩
    · intro e
      simp only [Bool.and_eq_true, decide_eq_true_eq] at e
      obtain ⟨⟨x0, x1⟩, ⟨y0, y1⟩⟩ := h
      obtain ⟨X, rfl⟩ := Int.eq_ofNat_of_zero_le x0
      obtain ⟨Y, rfl⟩ := Int.eq_ofNat_of_zero_le y0
      exact ⟨X, Y, rfl, rfl, by omega, by omega, by omega⟩
    · intro _ X Y ex ey
      subst ex ey
      exact ⟨by congr 1; try omega, by congr 1; try omega⟩
  · refine ⟨false, fun e => (by cases e), fun na ncap W hN => (numbers_bad 7 m na ncap 2 #[x, y] W hN rfl (by decide) (by decide) (Or.inr (Or.inr (Or.inr ?_)))).mono fun e w' ⟨h1, h2⟩ => ⟨_, _, h1, fun e => (by cases e), h2⟩⟩
    by_cases hx : in2k x
    · exact ⟨1, by omega, fun hy => h ⟨hx, hy⟩⟩
    · exact ⟨0, by omega, hx⟩

theorem numok_8 (m : Nat) (x y : Int) : ∃ OK : Bool, (OK = true → ∃ X Y : Nat, x = X ∧ y = Y ∧ X ≤ 2000 ∧ Y ≤ 2000 ∧ (X < Y ∧ Y ≤ m)) ∧
    ∀ (na : Option Addr) (ncap : Nat) (W : World), RdN W na #[x, y] → Calls Tryz.prog 26 #[.int .i64 8, .int .i64 m, .slice na 2 ncap] W fun e w' => ∃ u v, e = .returned (.tuple #[u, v, .bool OK]) ∧ (OK = true → ∀ X Y : Nat, x = X → y = Y → u = .int .i64 ((X : Nat) : Int) ∧ v = .int .i64 ((Y : Nat) : Int)) ∧ Below W.heap.size W w' := by
  by_cases h : in2k x ∧ in2k y
  · refine ⟨_, ?_, fun na ncap W hN => (numbers_8 m na ncap x y W hN h.1 h.2).mono fun e w' ⟨h1, h2⟩ => ⟨_, _, h1, ?_, h2⟩⟩
    · intro e
      simp only [Bool.and_eq_true, decide_eq_true_eq] at e
      obtain ⟨⟨x0, x1⟩, ⟨y0, y1⟩⟩ := h
      obtain ⟨X, rfl⟩ := Int.eq_ofNat_of_zero_le x0
      obtain ⟨Y, rfl⟩ := Int.eq_ofNat_of_zero_le y0
      exact ⟨X, Y, rfl, rfl, by omega, by omega, by omega⟩
    · intro _ X Y ex ey
      subst ex ey
      exact ⟨by congr 1; try omega, by congr 1; try omega⟩
  · refine ⟨false, fun e => (by cases e), fun na ncap W hN => (numbers_bad 8 m na ncap 2 #[x, y] W hN rfl (by decide) (by decide) (Or.inr (Or.inr (Or.inr ?_)))).mono fun e w' ⟨h1, h2⟩ => ⟨_, _, h1, fun e => (by cases e), h2⟩⟩
    by_cases hx : in2k x
    · exact ⟨1, by omega, fun hy => h ⟨hx, hy⟩⟩
    · exact ⟨0, by omega, hx⟩

theorem numok_9 (m : Nat) (x y : Int) : ∃ OK : Bool, (OK = true → ∃ X Y : Nat, x = X ∧ y = Y ∧ X ≤ 2000 ∧ Y ≤ 2000 ∧ (X < m ∧ Y < m)) ∧
    ∀ (na : Option Addr) (ncap : Nat) (W : World), RdN W na #[x, y] → Calls Tryz.prog 26 #[.int .i64 9, .int .i64 m, .slice na 2 ncap] W fun e w' => ∃ u v, e = .returned (.tuple #[u, v, .bool OK]) ∧ (OK = true → ∀ X Y : Nat, x = X → y = Y → u = .int .i64 ((0 : Nat) : Int) ∧ v = .int .i64 ((0 : Nat) : Int)) ∧ Below W.heap.size W w' := by
  by_cases h : in2k x ∧ in2k y
  · refine ⟨_, ?_, fun na ncap W hN => (numbers_9 m na ncap x y W hN h.1 h.2).mono fun e w' ⟨h1, h2⟩ => ⟨_, _, h1, ?_, h2⟩⟩
    · intro e
      simp only [Bool.and_eq_true, decide_eq_true_eq] at e
      obtain ⟨⟨x0, x1⟩, ⟨y0, y1⟩⟩ := h
      obtain ⟨X, rfl⟩ := Int.eq_ofNat_of_zero_le x0
      obtain ⟨Y, rfl⟩ := Int.eq_ofNat_of_zero_le y0
      exact ⟨X, Y, rfl, rfl, by omega, by omega, by omega⟩
    · intro _ X Y ex ey
      subst ex ey
      exact ⟨by congr 1; try omega, by congr 1; try omega⟩
  · refine ⟨false, fun e => (by cases e), fun na ncap W hN => (numbers_bad 9 m na ncap 2 #[x, y] W hN rfl (by decide) (by decide) (Or.inr (Or.inr (Or.inr ?_)))).mono fun e w' ⟨h1, h2⟩ => ⟨_, _, h1, fun e => (by cases e), h2⟩⟩
    by_cases hx : in2k x
    · exact ⟨1, by omega, fun hy => h ⟨hx, hy⟩⟩
    · exact ⟨0, by omega, hx⟩

theorem numok_10 (m : Nat) (x y z : Int) : ∃ OK : Bool, (OK = true → ∃ X Y Z : Nat, x = X ∧ y = Y ∧ z = Z ∧ X ≤ 2000 ∧ Y ≤ 2000 ∧ Z ≤ 2000 ∧ (X < m ∧ Y < m ∧ Z < m)) ∧
    ∀ (na : Option Addr) (ncap : Nat) (W : World), RdN W na #[x, y, z] → Calls Tryz.prog 26 #[.int .i64 10, .int .i64 m, .slice na 3 ncap] W fun e w' => ∃ u v, e = .returned (.tuple #[u, v, .bool OK]) ∧ (OK = true → ∀ X Y Z : Nat, x = X → y = Y → z = Z → u = .int .i64 ((0 : Nat) : Int) ∧ v = .int .i64 ((0 : Nat) : Int)) ∧ Below W.heap.size W w' := by
  by_cases h : in2k x ∧ in2k y ∧ in2k z
  · refine ⟨_, ?_, fun na ncap W hN => (numbers_10 m na ncap x y z W hN h.1 h.2.1 h.2.2).mono fun e w' ⟨h1, h2⟩ => ⟨_, _, h1, ?_, h2⟩⟩
    · intro e
      simp only [Bool.and_eq_true, decide_eq_true_eq] at e
      obtain ⟨⟨x0, x1⟩, ⟨y0, y1⟩, ⟨z0, z1⟩⟩ := h
      obtain ⟨X, rfl⟩ := Int.eq_ofNat_of_zero_le x0
      obtain ⟨Y, rfl⟩ := Int.eq_ofNat_of_zero_le y0
      obtain ⟨Z, rfl⟩ := Int.eq_ofNat_of_zero_le z0
      exact ⟨X, Y, Z, rfl, rfl, rfl, by omega, by omega, by omega, by omega⟩
    · intro _ X Y Z ex ey ez
      subst ex ey ez
      exact ⟨by congr 1; try omega, by congr 1; try omega⟩
  · refine ⟨false, fun e => (by cases e), fun na ncap W hN => (numbers_bad 10 m na ncap 3 #[x, y, z] W hN rfl (by decide) (by decide) (Or.inr (Or.inr (Or.inr ?_)))).mono fun e w' ⟨h1, h2⟩ => ⟨_, _, h1, fun e => (by cases e), h2⟩⟩
    by_cases hx : in2k x
    · by_cases hy : in2k y
      · exact ⟨2, by omega, fun hz => h ⟨hx, hy, hz⟩⟩
      · exact ⟨1, by omega, hy⟩
    · exact ⟨0, by omega, hx⟩

theorem numok_11 (m : Nat) (x : Int) : ∃ OK : Bool, (OK = true → ∃ X : Nat, x = X ∧ X ≤ 2000 ∧ (1 ≤ X ∧ X + 1 < m)) ∧
    ∀ (na : Option Addr) (ncap : Nat) (W : World), RdN W na #[x] → Calls Tryz.prog 26 #[.int .i64 11, .int .i64 m, .slice na 1 ncap] W fun e w' => ∃ u v, e = .returned (.tuple #[u, v, .bool OK]) ∧ (OK = true → ∀ X : Nat, x = X → u = .int .i64 ((0 : Nat) : Int) ∧ v = .int .i64 ((0 : Nat) : Int)) ∧ Below W.heap.size W w' := by
  by_cases h : in2k x
  · refine ⟨_, ?_, fun na ncap W hN => (numbers_11 m na ncap x W hN h).mono fun e w' ⟨h1, h2⟩ => ⟨_, _, h1, ?_, h2⟩⟩
    · intro e
      simp only [Bool.and_eq_true, decide_eq_true_eq] at e
      obtain ⟨x0, x1⟩ := h
      obtain ⟨X, rfl⟩ := Int.eq_ofNat_of_zero_le x0
      exact ⟨X, rfl, by omega, by omega⟩
    · intro _ X ex
      subst ex
      exact ⟨by congr 1; try omega, by congr 1; try omega⟩
  · refine ⟨false, fun e => (by cases e), fun na ncap W hN => (numbers_bad 11 m na ncap 1 #[x] W hN rfl (by decide) (by decide) (Or.inr (Or.inr (Or.inr ?_)))).mono fun e w' ⟨h1, h2⟩ => ⟨_, _, h1, fun e => (by cases e), h2⟩⟩
    exact ⟨0, by omega, h⟩

theorem numok_12 (m : Nat) (x y : Int) : ∃ OK : Bool, (OK = true → ∃ X Y : Nat, x = X ∧ y = Y ∧ X ≤ 2000 ∧ Y ≤ 2000 ∧ (X ≤ Y ∧ Y ≤ m)) ∧
    ∀ (na : Option Addr) (ncap : Nat) (W : World), RdN W na #[x, y] → Calls Tryz.prog 26 #[.int .i64 12, .int .i64 m, .slice na 2 ncap] W fun e w' => ∃ u v, e = .returned (.tuple #[u, v, .bool OK]) ∧ (OK = true → ∀ X Y : Nat, x = X → y = Y → u = .int .i64 ((X : Nat) : Int) ∧ v = .int .i64 ((Y : Nat) : Int)) ∧ Below W.heap.size W w' := by
  by_cases h : in2k x ∧ in2k y
  · refine ⟨_, ?_, fun na ncap W hN => (numbers_12 m na ncap x y W hN h.1 h.2).mono fun e w' ⟨h1, h2⟩ => ⟨_, _, h1, ?_, h2⟩⟩
    · intro e
      simp only [Bool.and_eq_true, decide_eq_true_eq] at e
      obtain ⟨⟨x0, x1⟩, ⟨y0, y1⟩⟩ := h
      obtain ⟨X, rfl⟩ := Int.eq_ofNat_of_zero_le x0
      obtain ⟨Y, rfl⟩ := Int.eq_ofNat_of_zero_le y0
      exact ⟨X, Y, rfl, rfl, by omega, by omega, by omega⟩
    · intro _ X Y ex ey
      subst ex ey
      exact ⟨by congr 1; try omega, by congr 1; try omega⟩
  · refine ⟨false, fun e => (by cases e), fun na ncap W hN => (numbers_bad 12 m na ncap 2 #[x, y] W hN rfl (by decide) (by decide) (Or.inr (Or.inr (Or.inr ?_)))).mono fun e w' ⟨h1, h2⟩ => ⟨_, _, h1, fun e => (by cases e), h2⟩⟩
    by_cases hx : in2k x
    · exact ⟨1, by omega, fun hy => h ⟨hx, hy⟩⟩
    · exact ⟨0, by omega, hx⟩

theorem numok_13 (m : Nat) (x y z : Int) : ∃ OK : Bool, (OK = true → ∃ X Y Z : Nat, x = X ∧ y = Y ∧ z = Z ∧ X ≤ 2000 ∧ Y ≤ 2000 ∧ Z ≤ 2000 ∧ (min X Y + Z ≤ max X Y ∧ max X Y + Z ≤ m)) ∧
    ∀ (na : Option Addr) (ncap : Nat) (W : World), RdN W na #[x, y, z] → Calls Tryz.prog 26 #[.int .i64 13, .int .i64 m, .slice na 3 ncap] W fun e w' => ∃ u v, e = .returned (.tuple #[u, v, .bool OK]) ∧ (OK = true → ∀ X Y Z : Nat, x = X → y = Y → z = Z → u = .int .i64 ((min X Y : Nat) : Int) ∧ v = .int .i64 ((max X Y + Z : Nat) : Int)) ∧ Below W.heap.size W w' := by
  by_cases h : in2k x ∧ in2k y ∧ in2k z
  · refine ⟨_, ?_, fun na ncap W hN => (numbers_13 m na ncap x y z W hN h.1 h.2.1 h.2.2).mono fun e w' ⟨h1, h2⟩ => ⟨_, _, h1, ?_, h2⟩⟩
    · intro e
      simp only [Bool.and_eq_true, decide_eq_true_eq] at e
      obtain ⟨⟨x0, x1⟩, ⟨y0, y1⟩, ⟨z0, z1⟩⟩ := h
      obtain ⟨X, rfl⟩ := Int.eq_ofNat_of_zero_le x0
      obtain ⟨Y, rfl⟩ := Int.eq_ofNat_of_zero_le y0
      obtain ⟨Z, rfl⟩ := Int.eq_ofNat_of_zero_le z0
      exact ⟨X, Y, Z, rfl, rfl, rfl, by omega, by omega, by omega, by omega⟩
    · intro _ X Y Z ex ey ez
      subst ex ey ez
      exact ⟨by congr 1; try omega, by congr 1; try omega⟩
  · refine ⟨false, fun e => (by cases e), fun na ncap W hN => (numbers_bad 13 m na ncap 3 #[x, y, z] W hN rfl (by decide) (by decide) (Or.inr (Or.inr (Or.inr ?_)))).mono fun e w' ⟨h1, h2⟩ => ⟨_, _, h1, fun e => (by cases e), h2⟩⟩
    by_cases hx : in2k x
    · by_cases hy : in2k y
      · exact ⟨2, by omega, fun hz => h ⟨hx, hy, hz⟩⟩
      · exact ⟨1, by omega, hy⟩
    · exact ⟨0, by omega, hx⟩

theorem numok_14 (m : Nat) (x : Int) : ∃ OK : Bool, (OK = true → ∃ X : Nat, x = X ∧ X ≤ 2000 ∧ (X ≤ m)) ∧
    ∀ (na : Option Addr) (ncap : Nat) (W : World), RdN W na #[x] → Calls Tryz.prog 26 #[.int .i64 14, .int .i64 m, .slice na 1 ncap] W fun e w' => ∃ u v, e = .returned (.tuple #[u, v, .bool OK]) ∧ (OK = true → ∀ X : Nat, x = X → u = .int .i64 ((0 : Nat) : Int) ∧ v = .int .i64 ((X : Nat) : Int)) ∧ Below W.heap.size W w' := by
  by_cases h : in2k x
  · refine ⟨_, ?_, fun na ncap W hN => (numbers_14 m na ncap x W hN h).mono fun e w' ⟨h1, h2⟩ => ⟨_, _, h1, ?_, h2⟩⟩
    · intro e
      simp only [decide_eq_true_eq] at e
      obtain ⟨x0, x1⟩ := h
      obtain ⟨X, rfl⟩ := Int.eq_ofNat_of_zero_le x0
      exact ⟨X, rfl, by omega, by omega⟩
    · intro _ X ex
      subst ex
      exact ⟨by congr 1; try omega, by congr 1; try omega⟩
  · refine ⟨false, fun e => (by cases e), fun na ncap W hN => (numbers_bad 14 m na ncap 1 #[x] W hN rfl (by decide) (by decide) (Or.inr (Or.inr (Or.inr ?_)))).mono fun e w' ⟨h1, h2⟩ => ⟨_, _, h1, fun e => (by cases e), h2⟩⟩
    exact ⟨0, by omega, h⟩

theorem numok_15 (m : Nat) (x y z : Int) : ∃ OK : Bool, (OK = true → ∃ X Y Z : Nat, x = X ∧ y = Y ∧ z = Z ∧ X ≤ 2000 ∧ Y ≤ 2000 ∧ Z ≤ 2000 ∧ (X < Y ∧ Y < Z ∧ Z ≤ m)) ∧
    ∀ (na : Option Addr) (ncap : Nat) (W : World), RdN W na #[x, y, z] → Calls Tryz.prog 26 #[.int .i64 15, .int .i64 m, .slice na 3 ncap] W fun e w' => ∃ u v, e = .returned (.tuple #[u, v, .bool OK]) ∧ (OK = true → ∀ X Y Z : Nat, x = X → y = Y → z = Z → u = .int .i64 ((X : Nat) : Int) ∧ v = .int .i64 ((Z : Nat) : Int)) ∧ Below W.heap.size W w' := by
  by_cases h : in2k x ∧ in2k y ∧ in2k z
  · refine ⟨_, ?_, fun na ncap W hN => (numbers_15 m na ncap x y z W hN h.1 h.2.1 h.2.2).mono fun e w' ⟨h1, h2⟩ => ⟨_, _, h1, ?_, h2⟩⟩
    · intro e
      simp only [Bool.and_eq_true, decide_eq_true_eq] at e
      obtain ⟨⟨x0, x1⟩, ⟨y0, y1⟩, ⟨z0, z1⟩⟩ := h
      obtain ⟨X, rfl⟩ := Int.eq_ofNat_of_zero_le x0
      obtain ⟨Y, rfl⟩ := Int.eq_ofNat_of_zero_le y0
      obtain ⟨Z, rfl⟩ := Int.eq_ofNat_of_zero_le z0
      exact ⟨X, Y, Z, rfl, rfl, rfl, by omega, by omega, by omega, by omega⟩
    · intro _ X Y Z ex ey ez
      subst ex ey ez
      exact ⟨by congr 1; try omega, by congr 1; try omega⟩
  · refine ⟨false, fun e => (by cases e), fun na ncap W hN => (numbers_bad 15 m na ncap 3 #[x, y, z] W hN rfl (by decide) (by decide) (Or.inr (Or.inr (Or.inr ?_)))).mono fun e w' ⟨h1, h2⟩ => ⟨_, _, h1, fun e => (by cases e), h2⟩⟩
    by_cases hx : in2k x
    · by_cases hy : in2k y
      · exact ⟨2, by omega, fun hz => h ⟨hx, hy, hz⟩⟩
      · exact ⟨1, by omega, hy⟩
    · exact ⟨0, by omega, hx⟩

theorem numok_16 (m : Nat) (x y z : Int) : ∃ OK : Bool, (OK = true → ∃ X Y Z : Nat, x = X ∧ y = Y ∧ z = Z ∧ X ≤ 2000 ∧ Y ≤ 2000 ∧ Z ≤ 2000 ∧ (X < Y ∧ Y < Z ∧ Z ≤ m)) ∧
    ∀ (na : Option Addr) (ncap : Nat) (W : World), RdN W na #[x, y, z] → Calls Tryz.prog 26 #[.int .i64 16, .int .i64 m, .slice na 3 ncap] W fun e w' => ∃ u v, e = .returned (.tuple #[u, v, .bool OK]) ∧ (OK = true → ∀ X Y Z : Nat, x = X → y = Y → z = Z → u = .int .i64 ((X : Nat) : Int) ∧ v = .int .i64 ((Z : Nat) : Int)) ∧ Below W.heap.size W w' := by
  by_cases h : in2k x ∧ in2k y ∧ in2k z
  · refine ⟨_, ?_, fun na ncap W hN => (numbers_16 m na ncap x y z W hN h.1 h.2.1 h.2.2).mono fun e w' ⟨h1, h2⟩ => ⟨_, _, h1, ?_, h2⟩⟩
    · intro e
      simp only [Bool.and_eq_true, decide_eq_true_eq] at e
      obtain ⟨⟨x0, x1⟩, ⟨y0, y1⟩, ⟨z0, z1⟩⟩ := h
      obtain ⟨X, rfl⟩ := Int.eq_ofNat_of_zero_le x0
      obtain ⟨Y, rfl⟩ := Int.eq_ofNat_of_zero_le y0
      obtain ⟨Z, rfl⟩ := Int.eq_ofNat_of_zero_le z0
      exact ⟨X, Y, Z, rfl, rfl, rfl, by omega, by omega, by omega, by omega⟩
    · intro _ X Y Z ex ey ez
      subst ex ey ez
      exact ⟨by congr 1; try omega, by congr 1; try omega⟩
  · refine ⟨false, fun e => (by cases e), fun na ncap W hN => (numbers_bad 16 m na ncap 3 #[x, y, z] W hN rfl (by decide) (by decide) (Or.inr (Or.inr (Or.inr ?_)))).mono fun e w' ⟨h1, h2⟩ => ⟨_, _, h1, fun e => (by cases e), h2⟩⟩
    by_cases hx : in2k x
    · by_cases hy : in2k y
      · exact ⟨2, by omega, fun hz => h ⟨hx, hy, hz⟩⟩
      · exact ⟨1, by omega, hy⟩
    · exact ⟨0, by omega, hx⟩

end Go.Proofs.YtglgmkikegbchaaGreat

/- impl.many of each function (printed by gen/numok.py). -/
namespace Go.Proofs.YtglgmkikegbchaaGreat
open Go.RowKit Go.Sort

theorem many_0 (W : World) : Calls Tryz.prog 40 #[.int .i64 0] W fun e w' => e = .returned (.int .i64 ((2 : Nat) : Int)) ∧ w' = W := by
  go_enter Tryz.func40, Tryz.ntmps40
  go_wp2
  go_ret
  exact ⟨rfl, rfl⟩
theorem many_1 (W : World) : Calls Tryz.prog 40 #[.int .i64 1] W fun e w' => e = .returned (.int .i64 ((3 : Nat) : Int)) ∧ w' = W := by
  go_enter Tryz.func40, Tryz.ntmps40
  go_wp2
  go_ret
  exact ⟨rfl, rfl⟩
theorem many_2 (W : World) : Calls Tryz.prog 40 #[.int .i64 2] W fun e w' => e = .returned (.int .i64 ((2 : Nat) : Int)) ∧ w' = W := by
  go_enter Tryz.func40, Tryz.ntmps40
  go_wp2
  go_ret
  exact ⟨rfl, rfl⟩
theorem many_3 (W : World) : Calls Tryz.prog 40 #[.int .i64 3] W fun e w' => e = .returned (.int .i64 ((3 : Nat) : Int)) ∧ w' = W := by
  go_enter Tryz.func40, Tryz.ntmps40
  go_wp2
  go_ret
  exact ⟨rfl, rfl⟩
theorem many_4 (W : World) : Calls Tryz.prog 40 #[.int .i64 4] W fun e w' => e = .returned (.int .i64 ((3 : Nat) : Int)) ∧ w' = W := by
  go_enter Tryz.func40, Tryz.ntmps40
  go_wp2
  go_ret
  exact ⟨rfl, rfl⟩
theorem many_5 (W : World) : Calls Tryz.prog 40 #[.int .i64 5] W fun e w' => e = .returned (.int .i64 ((3 : Nat) : Int)) ∧ w' = W := by
  go_enter Tryz.func40, Tryz.ntmps40
  go_wp2
  go_ret
  exact ⟨rfl, rfl⟩
theorem many_6 (W : World) : Calls Tryz.prog 40 #[.int .i64 6] W fun e w' => e = .returned (.int .i64 ((2 : Nat) : Int)) ∧ w' = W := by
  go_enter Tryz.func40, Tryz.ntmps40
  go_wp2
  go_ret
  exact ⟨rfl, rfl⟩
theorem many_7 (W : World) : Calls Tryz.prog 40 #[.int .i64 7] W fun e w' => e = .returned (.int .i64 ((2 : Nat) : Int)) ∧ w' = W := by
  go_enter Tryz.func40, Tryz.ntmps40
  go_wp2
  go_ret
  exact ⟨rfl, rfl⟩
theorem many_8 (W : World) : Calls Tryz.prog 40 #[.int .i64 8] W fun e w' => e = .returned (.int .i64 ((2 : Nat) : Int)) ∧ w' = W := by
  go_enter Tryz.func40, Tryz.ntmps40
  go_wp2
  go_ret
  exact ⟨rfl, rfl⟩
theorem many_9 (W : World) : Calls Tryz.prog 40 #[.int .i64 9] W fun e w' => e = .returned (.int .i64 ((2 : Nat) : Int)) ∧ w' = W := by
  go_enter Tryz.func40, Tryz.ntmps40
  go_wp2
  go_ret
  exact ⟨rfl, rfl⟩
theorem many_10 (W : World) : Calls Tryz.prog 40 #[.int .i64 10] W fun e w' => e = .returned (.int .i64 ((3 : Nat) : Int)) ∧ w' = W := by
  go_enter Tryz.func40, Tryz.ntmps40
  go_wp2
  go_ret
  exact ⟨rfl, rfl⟩
theorem many_11 (W : World) : Calls Tryz.prog 40 #[.int .i64 11] W fun e w' => e = .returned (.int .i64 ((1 : Nat) : Int)) ∧ w' = W := by
  go_enter Tryz.func40, Tryz.ntmps40
  go_wp2
  go_ret
  exact ⟨rfl, rfl⟩
theorem many_12 (W : World) : Calls Tryz.prog 40 #[.int .i64 12] W fun e w' => e = .returned (.int .i64 ((2 : Nat) : Int)) ∧ w' = W := by
  go_enter Tryz.func40, Tryz.ntmps40
  go_wp2
  go_ret
  exact ⟨rfl, rfl⟩
theorem many_13 (W : World) : Calls Tryz.prog 40 #[.int .i64 13] W fun e w' => e = .returned (.int .i64 ((3 : Nat) : Int)) ∧ w' = W := by
  go_enter Tryz.func40, Tryz.ntmps40
  go_wp2
  go_ret
  exact ⟨rfl, rfl⟩
theorem many_14 (W : World) : Calls Tryz.prog 40 #[.int .i64 14] W fun e w' => e = .returned (.int .i64 ((1 : Nat) : Int)) ∧ w' = W := by
  go_enter Tryz.func40, Tryz.ntmps40
  go_wp2
  go_ret
  exact ⟨rfl, rfl⟩
theorem many_15 (W : World) : Calls Tryz.prog 40 #[.int .i64 15] W fun e w' => e = .returned (.int .i64 ((3 : Nat) : Int)) ∧ w' = W := by
  go_enter Tryz.func40, Tryz.ntmps40
  go_wp2
  go_ret
  exact ⟨rfl, rfl⟩
theorem many_16 (W : World) : Calls Tryz.prog 40 #[.int .i64 16] W fun e w' => e = .returned (.int .i64 ((3 : Nat) : Int)) ∧ w' = W := by
  go_enter Tryz.func40, Tryz.ntmps40
  go_wp2
  go_ret
  exact ⟨rfl, rfl⟩
end Go.Proofs.YtglgmkikegbchaaGreat
