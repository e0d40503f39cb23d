/- spec.Numbers (printed by gen/numbers.py). -/
import Derived.Test.YtglgmkikegbchaaGreatzText
import Derived.Maps.OwnOps
namespace Go.Proofs.YtglgmkikegbchaaGreat
open Go.RowKit Go.Sort Go.Maps

def in2k (x : Int) : Prop := 0 ≤ x ∧ x ≤ 2000
theorem lawI : Keyed Tryz.prog 3 := int_keyed Tryz.underlying3
theorem zeroI (w : World) : (zeroValue 3).run Tryz.prog w = .ok (.int .i64 0) w := by kernel_rfl

/-- A map under construction, and what was there before. -/
def MapSt (w0 w : World) (n : Nat) (D : DataW Unit) : Prop := w.ownsMap Tryz.prog 3 (plainElem Tryz.prog 3) w0.heap.size n D ∧ Below w0.heap.size w0 w

theorem mapSt_made (w0 : World) : MapSt w0 (w0.alloc (.map #[] 0)) 0 (.map []) := ⟨World.ownsMap_made _ _ _ _, below_alloc _ _⟩

theorem wpList_insert_run {P : Program} {w w' : World} {ops : Array Oper} {rest : List Oper} {o : Oper} {a : Act} {Q : Exit → Act → World → Prop}
    (hg : o.guard = none) (t : TypeId) (m x v : Operand) (mv xv vv : Value) (hop : o.op = Op.insert t m x v) (hm : a.eval m = mv) (hx : a.eval x = xv) (hv : a.eval v = vv)
    (hrun : (Instr.mapUpdate t mv xv vv).run P w = .ok () w') (h : wpList P ops Q rest (a.put o.dst undef) w') : wpList P ops Q (o :: rest) a w := by
  refine wpList_plain hg fun K' hK' => ?_
  unfold Oper.wp
  simp [execOp, hop, hm, hx, hv, hrun, Result.andThen]
  exact hK' _ _ h

theorem wpList_insert_st {w0 w : World} {n : Nat} {D : DataW Unit} {ops : Array Oper} {rest : List Oper} {o : Oper} {a : Act} {Q : Exit → Act → World → Prop} (hst : Aside (MapSt w0 w n D))
    (hg : o.guard = none) (m : Operand) (x v : Int) (hop : o.op = Op.insert 52 m (.const (.int .i64 x)) (.const (.int .i64 v))) (hm : a.eval m = .map (some w0.heap.size)) (hx : (Lit.int .i64 x).wf = true) (hv : (Lit.int .i64 v).wf = true) (hn : n < maxLen)
    (hK : ∀ w', Aside (MapSt w0 w' (n + 1) (D.put (.int .i64 x) (.lit (.int .i64 v)))) → wpList Tryz.prog ops Q rest (a.put o.dst undef) w') :
    wpList Tryz.prog ops Q (o :: rest) a w := by
  obtain ⟨w', hrun, r1, r2⟩ := hst.out.1.update lawI Tryz.underlying52 hn (keyOf_int_mk Tryz.underlying3 hx) (plainElem_int Tryz.underlying3 hv)
  exact wpList_insert_run hg _ m _ _ _ _ _ hop hm rfl rfl hrun (hK w' ⟨r1, hst.out.2.grown r2 hst.out.2.size (fun j hj => by cases hj; exact Nat.le_refl _)⟩)

theorem results_tmp3 {fn : Func} {t u v : Tmp} (h : fn.results = #[.tmp t, .tmp u, .tmp v]) (tmps : Array Value) (P : Program) (w : World) :
    (results fn tmps).run P w = .ok (.tuple #[tmps.getD t undef, tmps.getD u undef, tmps.getD v undef]) w := by
  simp [results, h]

/-- How many numbers each function has. -/
def wantMap : DataW Unit := (DataW.put (DataW.put (DataW.put (DataW.put (DataW.put (DataW.put (DataW.put (DataW.put (DataW.put (DataW.put (DataW.put (DataW.put (DataW.put (DataW.put (DataW.put (DataW.put (DataW.put (.map []) (.int .i64 0) (.lit (.int .i64 2))) (.int .i64 1) (.lit (.int .i64 3))) (.int .i64 2) (.lit (.int .i64 2))) (.int .i64 3) (.lit (.int .i64 3))) (.int .i64 4) (.lit (.int .i64 3))) (.int .i64 5) (.lit (.int .i64 3))) (.int .i64 6) (.lit (.int .i64 2))) (.int .i64 7) (.lit (.int .i64 2))) (.int .i64 8) (.lit (.int .i64 2))) (.int .i64 9) (.lit (.int .i64 2))) (.int .i64 10) (.lit (.int .i64 3))) (.int .i64 11) (.lit (.int .i64 1))) (.int .i64 12) (.lit (.int .i64 2))) (.int .i64 13) (.lit (.int .i64 3))) (.int .i64 14) (.lit (.int .i64 1))) (.int .i64 15) (.lit (.int .i64 3))) (.int .i64 16) (.lit (.int .i64 3)))
theorem want_c {f v c : Int} (h : wantMap.atKey (.int .i64 f) (.lit (.int .i64 0)) = .lit (.int .i64 c)) (h2 : wantMap.atKey (.int .i64 f) (.lit (.int .i64 0)) = .lit (.int .i64 v)) : c = v := by
  rw [h] at h2
  injection h2 with h2
  injection h2

theorem within_calls (x y m : Int) (w : World) : Calls Tryz.prog 37 #[.int .i64 x, .int .i64 y, .int .i64 m] w fun e w' => e = .returned (.bool (decide (0 ≤ x) && decide (x ≤ y) && decide (y ≤ m))) ∧ w' = w := by
  by_cases h1 : 0 ≤ x
  · by_cases h2 : x ≤ y
    · rw [show decide (0 ≤ x) = true from decide_eq_true h1, show decide (x ≤ y) = true from decide_eq_true h2]
      go_enter Tryz.func37, Tryz.ntmps37
      go_wp2
      go_ret
      exact ⟨rfl, rfl⟩
    · rw [show decide (0 ≤ x) = true from decide_eq_true h1, show decide (x ≤ y) = false from decide_eq_false h2]
      go_enter Tryz.func37, Tryz.ntmps37
      go_wp2
      go_ret
      exact ⟨rfl, rfl⟩
  · rw [show decide (0 ≤ x) = false from decide_eq_false h1]
    go_enter Tryz.func37, Tryz.ntmps37
    go_wp2
    go_ret
    exact ⟨rfl, rfl⟩

def wantF (f : Int) : Int := match wantMap.atKey (.int .i64 f) (.lit (.int .i64 0)) with | .lit (.int _ c) => c | _ => 0
theorem wantF_c {f c : Int} (h : wantMap.atKey (.int .i64 f) (.lit (.int .i64 0)) = .lit (.int .i64 c)) : wantF f = c := by
  unfold wantF
  rw [h]

set_option maxHeartbeats 8000000 in
set_option maxRecDepth 1000000 in
theorem numbers_bad (f m : Int) (a : Option Addr) (cap n : Nat) (ns : Array Int) (w : World) (h : RdN w a ns) (hn : ns.size = n) (hf : (Lit.int .i64 f).wf = true) (hsz : n < 4611686018427387904)
    (hbad : f < 0 ∨ 17 ≤ f ∨ (n : Int) ≠ wantF f ∨ ∃ i, i < n ∧ ¬ in2k ns[i]!) :
    Calls Tryz.prog 26 #[.int .i64 f, .int .i64 m, .slice a n cap] w fun e w' => e = .returned (.tuple #[.int .i64 0, .int .i64 0, .bool false]) ∧ Below w.heap.size w w' := by
  have H : Aside (RdN w a ns ∧ ns.size = n) := ⟨h, hn⟩
  have HB : Aside (f < 0 ∨ 17 ≤ f ∨ (n : Int) ≠ wantF f ∨ ∃ i, i < n ∧ ¬ in2k ns[i]!) := hbad
  clear h hn hbad
  have hmm := @run_makeMap Tryz.prog
  have hst : Aside (MapSt w (w.alloc (.map #[] 0)) 0 (.map [])) := mapSt_made w
  by_cases g1 : f < 0
  · go_enter Tryz.func26, Tryz.ntmps26
    go_wp2_with (first
      | (refine wpList_insert_st hst rfl _ _ _ rfl rfl (by decide) (by decide) (by decide) ?_; clear hst; intro w1 hst)
      | (at_lookup; refine wpList_lookup_own_int _ rfl _ _ 52 rfl 3 3 .i64 lawI Tryz.underlying52 Tryz.underlying3 (zeroI _) w.heap.size _ _ rfl hst.out.1 _ _ rfl (keyOf_int_mk Tryz.underlying3 hf) ?_; intro c hat _; clear hat)
      | fail)
    refine bodyPost_ret (results_tmp3 rfl _ _ _) rfl ?_
    exact ⟨rfl, hst.out.2⟩
  · by_cases g2 : 17 ≤ f
    · go_enter Tryz.func26, Tryz.ntmps26
      go_wp2_with (first
        | (refine wpList_insert_st hst rfl _ _ _ rfl rfl (by decide) (by decide) (by decide) ?_; clear hst; intro w1 hst)
        | (at_lookup; refine wpList_lookup_own_int _ rfl _ _ 52 rfl 3 3 .i64 lawI Tryz.underlying52 Tryz.underlying3 (zeroI _) w.heap.size _ _ rfl hst.out.1 _ _ rfl (keyOf_int_mk Tryz.underlying3 hf) ?_; intro c hat _; clear hat)
        | fail)
      refine bodyPost_ret (results_tmp3 rfl _ _ _) rfl ?_
      exact ⟨rfl, hst.out.2⟩
    · by_cases g3 : (n : Int) = wantF f
      · obtain ⟨C, hC⟩ : ∃ C, C = wantF f := ⟨_, rfl⟩
        rw [← hC] at g3
        have HC : Aside (wantF f = C) := hC.symm
        clear hC
        go_enter Tryz.func26, Tryz.ntmps26
        go_wp2_with (first
          | (refine wpList_insert_st hst rfl _ _ _ rfl rfl (by decide) (by decide) (by decide) ?_; clear hst; intro w1 hst)
          | (at_lookup; refine wpList_lookup_own_int _ rfl _ _ 52 rfl 3 3 .i64 lawI Tryz.underlying52 Tryz.underlying3 (zeroI _) w.heap.size _ _ rfl hst.out.1 _ _ rfl (keyOf_int_mk Tryz.underlying3 hf) ?_; intro c hat _; obtain rfl : C = c := HC.out.symm.trans (wantF_c hat); clear hat)
          | fail)
        have B : Aside (Below w.heap.size w w1) := hst.out.2
        clear hst
        go_loopg [6, 7, 8, 11, 32] n (fun g v6 v7 v8 _ vi wr => ∃ i : Nat, vi = .int .i64 i ∧ v6 = .int .i64 0 ∧ v7 = .int .i64 0 ∧ v8 = .bool false ∧ i ≤ n ∧ n - i ≤ g ∧ Aside (∀ k, k < i → in2k ns[k]!) ∧ wr = w1)
        case atStart => exact ⟨0, rfl, rfl, rfl, rfl, Nat.zero_le _, by omega, fun k hk => absurd hk (by omega), rfl⟩
        case round =>
          obtain ⟨i, rfl, rfl, rfl, rfl, hin, hg, HE, rfl⟩ := hrel
          by_cases hlt : i < n
          · have hltz : (i : Int) < (n : Int) := by omega
            obtain ⟨⟨hr, hns⟩⟩ : ∃ _ : RdN w a ns ∧ ns.size = n, True := ⟨H.out, trivial⟩
            obtain ⟨blk, off, rfl, hl, hc⟩ := hr (by omega)
            have q := (B.out.cell (p := ⟨blk, off + i, none⟩) hl).trans (hc i (by omega))
            obtain ⟨x, hx⟩ : ∃ x, x = ns[i]! := ⟨_, rfl⟩
            rw [← hx] at q
            have X : Aside (ns[i]! = x) := hx.symm
            clear hc hl hr hns hx
            by_cases p1 : x < 0
            · go_wp2_with fail
              (try simp only [Exit.inBlock, Exit.then]); refine bodyPost_ret (results_tmp3 rfl _ _ _) rfl ?_
              exact ⟨rfl, B.out⟩
            · by_cases p2 : 2000 < x
              · go_wp2_with fail
                (try simp only [Exit.inBlock, Exit.then]); refine bodyPost_ret (results_tmp3 rfl _ _ _) rfl ?_
                exact ⟨rfl, B.out⟩
              · go_wp2_with fail
                go_roundg (n - (i + 1))
                case measure => omega
                case rel => exact ⟨i + 1, by go_num, rfl, rfl, rfl, by omega, by omega, fun k hk => by
                  rcases Nat.lt_or_ge k i with h | h
                  · exact HE k h
                  · rw [show k = i by omega, X.out]; exact ⟨by omega, by omega⟩, rfl⟩
          · exfalso
            rcases HB.out with h | h | h | ⟨j, hj, hb⟩
            · omega
            · omega
            · exact h (g3.trans HC.out.symm)
            · exact hb (HE.out j (by omega))
      · obtain ⟨C, hC⟩ : ∃ C, C = wantF f := ⟨_, rfl⟩
        rw [← hC] at g3
        have HC : Aside (wantF f = C) := hC.symm
        clear hC
        go_enter Tryz.func26, Tryz.ntmps26
        go_wp2_with (first
          | (refine wpList_insert_st hst rfl _ _ _ rfl rfl (by decide) (by decide) (by decide) ?_; clear hst; intro w1 hst)
          | (at_lookup; refine wpList_lookup_own_int _ rfl _ _ 52 rfl 3 3 .i64 lawI Tryz.underlying52 Tryz.underlying3 (zeroI _) w.heap.size _ _ rfl hst.out.1 _ _ rfl (keyOf_int_mk Tryz.underlying3 hf) ?_; intro c hat _; obtain rfl : C = c := HC.out.symm.trans (wantF_c hat); clear hat)
          | fail)
        refine bodyPost_ret (results_tmp3 rfl _ _ _) rfl ?_
        exact ⟨rfl, hst.out.2⟩
end Go.Proofs.YtglgmkikegbchaaGreat
