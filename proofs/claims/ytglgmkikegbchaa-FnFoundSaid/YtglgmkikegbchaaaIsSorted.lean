/- IsSortedFunc, IsSorted; impl.Sorted (printed by gen/issorted.py). -/
import Derived.Test.YtglgmkikegbchaaWhole0
import Derived.Test.YtglgmkikegbchaaSOrd
import Derived.Test.YtglgmkikegbchaaFace
namespace Go.Proofs.Ytglgmkikegbchaa
open Go.RowKit Go.Sort

theorem below_grow (W : World) (q : Nat) (os : Array Obj) : Below W.heap.size W (grow (W.drewN q) os) := below_regrown W (W.drawn + q) os
theorem cmp_below (o : Ordr) (h0 : 0 ≤ o.shift) (h63 : o.shift < 64) (x y : It) (W : World) : Calls Try.prog 36 #[vOrd o, vIt x, vIt y] W fun e w' => e = .returned (.int .i64 (cfO o x y)) ∧ Below W.heap.size W w' :=
  (cmpC_of o h0 h63 x y W).mono fun e w' ⟨h1, q, os, h2⟩ => ⟨h1, by rw [h2]; exact below_grow W q os⟩

theorem asc_def {lt : It → It → Bool} {d : Array It} {m : Nat} (hn : d.size = m + 1) : ascB lt d = true ↔ ∀ j, j < m → lt d[j + 1]! d[j]! = false := by
  rw [ascB_true, hn, Nat.add_sub_cancel]
theorem asc_zero {lt : It → It → Bool} {d : Array It} (hn : d.size = 0) : ascB lt d = true := ascB_true.2 fun i hi => by omega

set_option maxHeartbeats 4000000 in
set_option maxRecDepth 1000000 in
theorem isSortedFunc_calls (a : Option Addr) (cap n : Nat) (d : Array It) (o : Ordr) (w : World) (h : Rd2 w a d) (hn : d.size = n) (hsz : n ≤ 2000) (h0 : 0 ≤ o.shift) (h63 : o.shift < 64) :
    Calls Try.prog 44 #[.slice a n cap, .func (.func 36) #[vOrd o] #[]] w fun e w' => e = .returned (.bool (ascB (ltC (cfO o)) d)) ∧ Below w.heap.size w w' := by
  have LC := fun x y W => cmp_below o h0 h63 x y W
  by_cases hn0 : n = 0
  · subst hn0
    rw [asc_zero hn]
    have w0 : IntKind.i64.wrap (0 - 1) = -1 := by decide
    clear LC h
    go_enter Try.func44, Try.ntmps44
    go_wp2_with fail
    refine wp_loop_rounds 1 ?_
    rw [rounds_succ]
    go_wp2_with fail
    go_ret
    exact ⟨rfl, Below.refl _ _⟩
  · obtain ⟨m, rfl⟩ : ∃ m, n = m + 1 := ⟨n - 1, by omega⟩
    obtain ⟨R, hR⟩ : ∃ R, R = ascB (ltC (cfO o)) d := ⟨_, rfl⟩
    rw [← hR]
    have HR : Aside (R = true ↔ ∀ j, j < m → ltC (cfO o) d[j + 1]! d[j]! = false) := by show _ ↔ _; rw [hR]; exact asc_def hn
    obtain ⟨blk, off, rfl, hbl, hc⟩ := h (by omega)
    have HC : Aside (∀ i, i < m + 1 → w.cell? ⟨blk, off + i * 2, none⟩ = some (.int .i64 d[i]!.1) ∧ w.cell? ⟨blk, off + i * 2 + 1, none⟩ = some (.int .i64 d[i]!.2)) := fun i hi => hc i (by omega)
    clear h hc hR hn hn0 h0 h63
    have mixed : Try.prog.follows .mixedOrders = true := by kernel_rfl
    go_enter Try.func44, Try.ntmps44
    go_wp2_with fail
    go_loopg [5] m (fun g vi wr => ∃ i : Nat, vi = .int .i64 i ∧ i ≤ m ∧ i ≤ g ∧ Aside (Below w.heap.size w wr) ∧ Aside (∀ j, i ≤ j → j < m → ltC (cfO o) d[j + 1]! d[j]! = false))
    case atStart => exact ⟨m, by go_num, Nat.le_refl _, Nat.le_refl _, Below.refl _ _, fun j h1 h2 => by omega⟩
    case round =>
      obtain ⟨i, rfl, him, hg, Bk, HJ⟩ := hrel
      by_cases hlt : 0 < i
      · obtain ⟨ip, rfl⟩ : ∃ ip, i = ip + 1 := ⟨i - 1, by omega⟩
        have hltz : (0 : Int) < (ip : Int) + 1 := by omega
        obtain ⟨⟨x1, x2⟩, hx⟩ : ∃ v : It, v = d[ip + 1]! := ⟨_, rfl⟩
        obtain ⟨⟨y1, y2⟩, hy⟩ : ∃ v : It, v = d[ip]! := ⟨_, rfl⟩
        obtain ⟨c1, c2⟩ := HC.out (ip + 1) (by omega)
        obtain ⟨c3, c4⟩ := HC.out ip (by omega)
        rw [← hx] at c1 c2
        rw [← hy] at c3 c4
        have q1 := cell_regrown ((Bk.out.cell (p := ⟨blk, off + (ip + 1) * 2, none⟩) hbl).trans c1)
        have q2 := cell_regrown ((Bk.out.cell (p := ⟨blk, off + (ip + 1) * 2 + 1, none⟩) hbl).trans c2)
        have q3 := cell_regrown ((Bk.out.cell (p := ⟨blk, off + ip * 2, none⟩) hbl).trans c3)
        have q4 := cell_regrown ((Bk.out.cell (p := ⟨blk, off + ip * 2 + 1, none⟩) hbl).trans c4)
        dsimp only at q1 q2 q3 q4
        obtain ⟨c, hcc⟩ : ∃ c, c = cfO o (x1, x2) (y1, y2) := ⟨_, rfl⟩
        have hl : ∀ p : Regrown, Calls Try.prog 36 #[vOrd o, .agg #[.int .i64 x1, .int .i64 x2], .agg #[.int .i64 y1, .int .i64 y2]] (grow (redrawn wr p.d) p.os) fun e w'' => e = .returned (.int .i64 c) ∧ ∃ p : Regrown, w'' = grow (redrawn wr p.d) p.os := fun p => by rw [hcc]; exact Calls.regrown_of (LC (x1, x2) (y1, y2) _)
        have HV : Aside (ltC (cfO o) d[ip + 1]! d[ip]! = decide (c < 0)) := by show ltC (cfO o) _ _ = _; rw [← hx, ← hy, hcc]; rfl
        have rI : IntKind.i64.wrap (ip : Int) = (ip : Int) := by rw [IntKind.wrap_i64]; omega
        have lI : (ip : Int) < (m : Int) + 1 := by omega
        have lI1 : (ip : Int) + 1 < (m : Int) + 1 := by omega
        have rI1 : IntKind.i64.wrap ((ip : Int) + 1) = (ip : Int) + 1 := by rw [IntKind.wrap_i64]; omega
        have pI1 : (0 : Int) ≤ (ip : Int) + 1 := by omega
        have eI1 : ((ip : Int) + 1).toNat = ip + 1 := by omega
        clear c1 c2 c3 c4 hx hy hcc
        have LC' : Aside _ := LC
        clear LC
        by_cases hcl : c < 0
        · have hcd : decide (c < 0) = true := decide_eq_true hcl
          have HV' : Aside _ := HV.out.trans hcd
          clear HV
          go_wp2_with fail
          refine wp_region_quiet_below (by assumption) (by kernel_rfl) ?_
          repeat' (quiet_step (with_reducible exact hl _))
          all_goals
            refine wpQuiet_nil ?_
            intro _ hw'
            obtain ⟨⟨nq, osq⟩, hw''⟩ := hw'
            subst hw''
          have B2 : Aside _ := Below.next Bk.out (below_regrown wr nq osq)
          clear hl q1 q2 q3 q4
          go_wp2_with fail
          (try simp only [Exit.inBlock, Exit.then]); refine bodyPost_ret (results_tmp rfl _ _ _) rfl ?_
          refine ⟨?_, B2.out⟩
          cases R with
          | false => rfl
          | true => have := HR.out.1 rfl ip (by omega); rw [HV'.out] at this; cases this
        · have hcd : decide (c < 0) = false := decide_eq_false hcl
          have HV' : Aside _ := HV.out.trans hcd
          clear HV
          go_wp2_with fail
          refine wp_region_quiet_below (by assumption) (by kernel_rfl) ?_
          repeat' (quiet_step (with_reducible exact hl _))
          all_goals
            refine wpQuiet_nil ?_
            intro _ hw'
            obtain ⟨⟨nq, osq⟩, hw''⟩ := hw'
            subst hw''
          have B2 : Aside _ := Below.next Bk.out (below_regrown wr nq osq)
          clear hl q1 q2 q3 q4
          go_wp2_with fail
          go_roundg ip
          case measure => omega
          case rel => exact ⟨ip, by go_num, by omega, Nat.le_refl _, B2, fun j h1 h2 => by
            by_cases hj : j = ip
            · rw [hj]; exact HV'.out
            · exact HJ.out j (by omega) h2⟩
      · obtain rfl : i = 0 := by omega
        go_wp2_with fail
        go_ret
        exact ⟨by rw [HR.out.2 fun j hj => HJ.out j (Nat.zero_le _) hj]; rfl, Bk.out⟩

set_option maxHeartbeats 4000000 in
set_option maxRecDepth 1000000 in
theorem faced_less_rd (blk off cap n : Nat) (k s m0 m1 m2 : Int) (lt : It → It → Int) (LC : ∀ x y W, Calls Try.prog 36 #[.agg #[.int .i64 k, .int .i64 s, .int .u64 m0, .int .u64 m1, .int .u64 m2], vIt x, vIt y] W fun e w' => e = .returned (.int .i64 (lt x y)) ∧ Below W.heap.size W w') (d : Array It) (i j : Nat) (hn : n ≤ 2000) (hi : i < n) (hj : j < n) (W : World) (hbl : blk < W.heap.size)
    (e1 : W.cell? ⟨blk, off + i * 2, none⟩ = some (.int .i64 d[i]!.1) ∧ W.cell? ⟨blk, off + i * 2 + 1, none⟩ = some (.int .i64 d[i]!.2)) (e2 : W.cell? ⟨blk, off + j * 2, none⟩ = some (.int .i64 d[j]!.1) ∧ W.cell? ⟨blk, off + j * 2 + 1, none⟩ = some (.int .i64 d[j]!.2)) :
    Calls Try.prog 181 #[.agg #[.slice (some ⟨blk, off, none⟩) n cap, .int .i64 k, .int .i64 s, .int .u64 m0, .int .u64 m1, .int .u64 m2], .int .i64 i, .int .i64 j] W fun e w' => e = .returned (.bool (decide (lt d[i]! d[j]! < 0))) ∧ Below W.heap.size W w' := by
  have mixed : Try.prog.follows .mixedOrders = true := by kernel_rfl
  obtain ⟨⟨x1, x2⟩, hx⟩ : ∃ v : It, v = d[i]! := ⟨_, rfl⟩
  obtain ⟨⟨y1, y2⟩, hy⟩ : ∃ v : It, v = d[j]! := ⟨_, rfl⟩
  rw [← hx] at e1 ⊢
  rw [← hy] at e2 ⊢
  obtain ⟨c, hcc⟩ : ∃ c, c = lt (x1, x2) (y1, y2) := ⟨_, rfl⟩
  have hl0 := LC (x1, x2) (y1, y2)
  rw [← hcc] at hl0 ⊢
  obtain ⟨V, hV⟩ : ∃ V, V = W.alloc (.cells #[.slice (some ⟨blk, off, none⟩) n cap, .int .i64 k, .int .i64 s, .int .u64 m0, .int .u64 m1, .int .u64 m2] 70) := ⟨_, rfl⟩
  have BV : Below W.heap.size W V := by rw [hV]; exact below_alloc _ _
  have nb : V.heap[W.heap.size]? = some (.cells #[.slice (some ⟨blk, off, none⟩) n cap, .int .i64 k, .int .i64 s, .int .u64 m0, .int .u64 m1, .int .u64 m2] 70 (0, 0)) := by rw [hV]; exact heap_alloc_new _ _
  have b0 := cell_regrown (show V.cell? ⟨W.heap.size, 0, none⟩ = some (.slice (some ⟨blk, off, none⟩) n cap) by simp [World.cell?, nb])
  have b1 := cell_regrown (show V.cell? ⟨W.heap.size, 1, none⟩ = some (.int .i64 k) by simp [World.cell?, nb])
  have b2 := cell_regrown (show V.cell? ⟨W.heap.size, 2, none⟩ = some (.int .i64 s) by simp [World.cell?, nb])
  have b3 := cell_regrown (show V.cell? ⟨W.heap.size, 3, none⟩ = some (.int .u64 m0) by simp [World.cell?, nb])
  have b4 := cell_regrown (show V.cell? ⟨W.heap.size, 4, none⟩ = some (.int .u64 m1) by simp [World.cell?, nb])
  have b5 := cell_regrown (show V.cell? ⟨W.heap.size, 5, none⟩ = some (.int .u64 m2) by simp [World.cell?, nb])
  have q1 := cell_regrown ((BV.cell (p := ⟨blk, off + i * 2, none⟩) hbl).trans e1.1)
  have q2 := cell_regrown ((BV.cell (p := ⟨blk, off + i * 2 + 1, none⟩) hbl).trans e1.2)
  have q3 := cell_regrown ((BV.cell (p := ⟨blk, off + j * 2, none⟩) hbl).trans e2.1)
  have q4 := cell_regrown ((BV.cell (p := ⟨blk, off + j * 2 + 1, none⟩) hbl).trans e2.2)
  dsimp only at q1 q2 q3 q4
  have hl : ∀ p : Regrown, Calls Try.prog 36 #[.agg #[.int .i64 k, .int .i64 s, .int .u64 m0, .int .u64 m1, .int .u64 m2], .agg #[.int .i64 x1, .int .i64 x2], .agg #[.int .i64 y1, .int .i64 y2]] (grow (redrawn V p.d) p.os) fun e w'' => e = .returned (.int .i64 c) ∧ ∃ p : Regrown, w'' = grow (redrawn V p.d) p.os := fun p => Calls.regrown_of (hl0 _)
  have BT : Aside (Below W.heap.size W V) := BV
  have lI : (i : Int) < (n : Int) := by omega
  have lJ : (j : Int) < (n : Int) := by omega
  have rI : IntKind.i64.wrap (i : Int) = (i : Int) := by rw [IntKind.wrap_i64]; omega
  have rJ : IntKind.i64.wrap (j : Int) = (j : Int) := by rw [IntKind.wrap_i64]; omega
  clear LC hl0 hcc hx hy e1 e2 nb BV hbl
  go_enter Try.func181, Try.ntmps181
  go_upto_region 1 with fail
  rw [← hV]
  clear hV
  refine wp_region_quiet_below (by assumption) (by kernel_rfl) ?_
  repeat' (quiet_step (with_reducible exact hl _))
  all_goals
    refine wpQuiet_nil ?_
    intro _ hw'
    obtain ⟨⟨nq, osq⟩, hw''⟩ := hw'
    subst hw''
  clear hl q1 q2 q3 q4 b0 b1 b2 b3 b4 b5
  go_wp2_with fail
  go_ret
  exact ⟨rfl, Below.next BT.out (below_regrown _ _ _)⟩

set_option maxHeartbeats 4000000 in
set_option maxRecDepth 1000000 in
theorem isSorted_calls (a : Option Addr) (cap n : Nat) (d : Array It) (o : Ordr) (w : World) (h : Rd2 w a d) (hn : d.size = n) (hsz : n ≤ 2000) (h0 : 0 ≤ o.shift) (h63 : o.shift < 64) :
    Calls Try.prog 45 #[.iface 70 (.agg #[.slice a n cap, .int .i64 o.kind, .int .i64 o.shift, .int .u64 o.m0, .int .u64 o.m1, .int .u64 o.m2])] w fun e w' => e = .returned (.bool (ascB (ltC (cfO o)) d)) ∧ Below w.heap.size w w' := by
  have LC := fun x y W => cmp_below o h0 h63 x y W
  obtain ⟨cf, hcf⟩ : ∃ cf, cf = cfO o := ⟨_, rfl⟩
  rw [← hcf] at LC ⊢
  clear hcf h0 h63
  obtain ⟨k, s, m0, m1, m2⟩ := o
  have hlen : ∀ W, Calls Try.prog 180 #[.agg #[.slice a n cap, .int .i64 k, .int .i64 s, .int .u64 m0, .int .u64 m1, .int .u64 m2]] W fun e w' => e = .returned (.int .i64 (n : Int)) ∧ Below W.heap.size W w' := fun W => by
    have B0 : Aside (Below W.heap.size W (W.alloc (.cells #[.slice a n cap, .int .i64 k, .int .i64 s, .int .u64 m0, .int .u64 m1, .int .u64 m2] 70))) := below_alloc _ _
    clear LC h
    go_enter Try.func180, Try.ntmps180
    go_wp2_with fail
    go_ret
    exact ⟨rfl, B0.out⟩
  have mLen : Sem.run Try.prog (method 303 70 (.agg #[.slice a n cap, .int .i64 k, .int .i64 s, .int .u64 m0, .int .u64 m1, .int .u64 m2]) "Len") w = .ok (180, .agg #[.slice a n cap, .int .i64 k, .int .i64 s, .int .u64 m0, .int .u64 m1, .int .u64 m2]) w := by kernel_rfl
  have eLen : ∀ args w, (callFunc 180 args).run Try.prog w = .ok (.enter 180 args) w := fun args w => by kernel_rfl
  by_cases hn0 : n = 0
  · subst hn0
    rw [asc_zero hn]
    have w0 : IntKind.i64.wrap (0 - 1) = -1 := by decide
    clear LC h
    go_enter Try.func45, Try.ntmps45
    go_wp2_with fail
    refine (hlen _).mono ?_
    rintro e w1 ⟨rfl, hb⟩
    have B1 : Aside _ := hb
    clear hb mLen hlen eLen
    go_wp2_with fail
    refine wp_loop_rounds 1 ?_
    rw [rounds_succ]
    go_wp2_with fail
    go_ret
    exact ⟨rfl, B1.out⟩
  · obtain ⟨m, rfl⟩ : ∃ m, n = m + 1 := ⟨n - 1, by omega⟩
    obtain ⟨R, hR⟩ : ∃ R, R = ascB (ltC cf) d := ⟨_, rfl⟩
    rw [← hR]
    have HR : Aside (R = true ↔ ∀ j, j < m → ltC cf d[j + 1]! d[j]! = false) := by show _ ↔ _; rw [hR]; exact asc_def hn
    obtain ⟨blk, off, rfl, hbl, hc⟩ := h (by omega)
    have HC : Aside (∀ i, i < m + 1 → w.cell? ⟨blk, off + i * 2, none⟩ = some (.int .i64 d[i]!.1) ∧ w.cell? ⟨blk, off + i * 2 + 1, none⟩ = some (.int .i64 d[i]!.2)) := fun i hi => hc i (by omega)
    have LL : Aside (∀ (i j : Nat) (W : World), i < m + 1 → j < m + 1 → Below w.heap.size w W → Calls Try.prog 181 #[.agg #[.slice (some ⟨blk, off, none⟩) (m + 1) cap, .int .i64 k, .int .i64 s, .int .u64 m0, .int .u64 m1, .int .u64 m2], .int .i64 i, .int .i64 j] W fun e w' => e = .returned (.bool (ltC cf d[i]! d[j]!)) ∧ Below W.heap.size W w') := fun i j W hi hj hW =>
      faced_less_rd blk off cap (m + 1) k s m0 m1 m2 cf LC d i j hsz hi hj W (Nat.lt_of_lt_of_le hbl hW.size) ⟨(hW.cell (p := ⟨blk, _, none⟩) hbl).trans (HC.out i hi).1, (hW.cell (p := ⟨blk, _, none⟩) hbl).trans (HC.out i hi).2⟩ ⟨(hW.cell (p := ⟨blk, _, none⟩) hbl).trans (HC.out j hj).1, (hW.cell (p := ⟨blk, _, none⟩) hbl).trans (HC.out j hj).2⟩
    have eL : ∀ args w, (callFunc 181 args).run Try.prog w = .ok (.enter 181 args) w := fun args w => by kernel_rfl
    clear h hc hR hn hn0 LC
    go_enter Try.func45, Try.ntmps45
    go_wp2_with fail
    refine (hlen _).mono ?_
    rintro e w1 ⟨rfl, hb⟩
    have B1 : Aside _ := hb
    clear hb mLen hlen eLen
    go_wp2_with fail
    go_loopg [4] m (fun g vi wr => ∃ i : Nat, vi = .int .i64 i ∧ i ≤ m ∧ i ≤ g ∧ Aside (Below w.heap.size w wr) ∧ Aside (∀ j, i ≤ j → j < m → ltC cf d[j + 1]! d[j]! = false))
    case atStart => exact ⟨m, by go_num, Nat.le_refl _, Nat.le_refl _, B1, fun j h1 h2 => by omega⟩
    case round =>
      clear B1
      obtain ⟨i, rfl, him, hg, Bk, HJ⟩ := hrel
      by_cases hlt : 0 < i
      · obtain ⟨ip, rfl⟩ : ∃ ip, i = ip + 1 := ⟨i - 1, by omega⟩
        have hltz : (0 : Int) < (ip : Int) + 1 := by omega
        have hl := LL.out (ip + 1) ip wr (by omega) (by omega) Bk.out
        rw [show ((ip + 1 : Nat) : Int) = (ip : Int) + 1 by omega] at hl
        obtain ⟨c, hcc⟩ : ∃ c, c = ltC cf d[ip + 1]! d[ip]! := ⟨_, rfl⟩
        rw [← hcc] at hl
        have HV : Aside (ltC cf d[ip + 1]! d[ip]! = c) := hcc.symm
        clear hcc
        have mL : Sem.run Try.prog (method 303 70 (.agg #[.slice (some ⟨blk, off, none⟩) (m + 1) cap, .int .i64 k, .int .i64 s, .int .u64 m0, .int .u64 m1, .int .u64 m2]) "Less") wr = .ok (181, .agg #[.slice (some ⟨blk, off, none⟩) (m + 1) cap, .int .i64 k, .int .i64 s, .int .u64 m0, .int .u64 m1, .int .u64 m2]) wr := by kernel_rfl
        cases c with
        | true =>
          go_wp2_with fail
          refine hl.mono ?_
          rintro e w2 ⟨rfl, hb⟩
          have B2 : Aside (Below w.heap.size w w2) := Below.next Bk.out hb
          clear hb hl mL
          go_wp2_with fail
          (try simp only [Exit.inBlock, Exit.then]); refine bodyPost_ret (results_tmp rfl _ _ _) rfl ?_
          refine ⟨?_, B2.out⟩
          cases R with
          | false => rfl
          | true => have := HR.out.1 rfl ip (by omega); rw [HV.out] at this; cases this
        | false =>
          go_wp2_with fail
          refine hl.mono ?_
          rintro e w2 ⟨rfl, hb⟩
          have B2 : Aside (Below w.heap.size w w2) := Below.next Bk.out hb
          clear hb hl mL
          go_wp2_with fail
          go_roundg ip
          case measure => omega
          case rel => exact ⟨ip, by go_num, by omega, Nat.le_refl _, B2, fun j h1 h2 => by
            by_cases hj : j = ip
            · rw [hj]; exact HV.out
            · exact HJ.out j (by omega) h2⟩
      · obtain rfl : i = 0 := by omega
        go_wp2_with fail
        go_ret
        exact ⟨by rw [HR.out.2 fun j hj => HJ.out j (Nat.zero_le _) hj]; rfl, Bk.out⟩

set_option maxHeartbeats 2000000 in
set_option maxRecDepth 1000000 in
theorem sorted_0 (a : Option Addr) (cap n : Nat) (d : Array It) (o : Ordr) (w : World) (h : Rd2 w a d) (hn : d.size = n) (hsz : n ≤ 2000) (h0 : 0 ≤ o.shift) (h63 : o.shift < 64) :
    Calls Try.prog 21 #[.int .i64 0, .slice a n cap, vOrd o] w fun e w' => e = .returned (.bool (ascB (ltC (cfO o)) d)) ∧ Below w.heap.size w w' := by
  have C : Aside (∀ W, Rd2 W a d → _) := fun W hW => isSortedFunc_calls a cap n d o W hW hn hsz h0 h63
  obtain ⟨R, hR⟩ : ∃ R, R = ascB (ltC (cfO o)) d := ⟨_, rfl⟩
  rw [← hR] at C ⊢
  have H : Aside (Rd2 w a d) := h
  clear h hR hn hsz h0 h63
  obtain ⟨k, s, m0, m1, m2⟩ := o
  have hmf : ∀ (fn : Fn) (first cap : Array Value) (w : World), (Instr.makeFunc fn first cap).run Try.prog w = .ok (.func fn first cap) w := fun _ _ _ _ => rfl
  go_enter_defers Try.func21, Try.ntmps21
  go_wp2_with fail
  refine (C.out _ (H.out.below (((Below.refl _ w).alloc (Nat.le_refl _) _).alloc (by simp) _) (Nat.le_refl _))).mono ?_
  rintro e w1 ⟨rfl, hbel⟩
  simp only [World.size_alloc] at hbel
  have B1 : Aside (Below w.heap.size w w1) := (((Below.refl _ w).alloc (Nat.le_refl _) _).alloc (by simp) _).trans (hbel.mono (by omega))
  have ok1 := hbel.cell (p := ⟨w.heap.size + 1, 0, none⟩) (by dsimp only; omega)
  have fk1 := hbel.frozen (p := ⟨w.heap.size + 1, 0, none⟩) (by dsimp only; omega)
  simp at ok1 fk1
  clear hbel C H
  go_wp2_with fail
  obtain ⟨W3, e3⟩ : ∃ W, W = w1.setCell ⟨w.heap.size + 1, 0, none⟩ (.bool R) := ⟨_, rfl⟩
  have q3 : W3.cell? ⟨w.heap.size + 1, 0, none⟩ = some (.bool R) := by rw [e3]; exact World.cell?_setCell_same _ _ _ ok1
  have B3 : Aside (Below w.heap.size w W3) := by show Below _ _ _; rw [e3]; exact B1.out.setCell (by simp) _
  rw [← e3]
  clear e3 B1 ok1 fk1
  refine leaves_cons (f := 33) (args := #[.pointer (some ⟨w.heap.size + 1, 0, none⟩)]) (by simp) (by simp [go_sem]) ?_
  refine (guarded_idle _ _).mono ?_
  rintro e u' w'' ⟨rfl, rfl, rfl⟩
  simp [Leaves, settle, results, Try.results21, go_sem, q3]
  exact B3.out

set_option maxHeartbeats 2000000 in
set_option maxRecDepth 1000000 in
theorem sorted_1 (a : Option Addr) (cap n : Nat) (d : Array It) (o : Ordr) (w : World) (h : Rd2 w a d) (hn : d.size = n) (hsz : n ≤ 2000) (h0 : 0 ≤ o.shift) (h63 : o.shift < 64) :
    Calls Try.prog 21 #[.int .i64 1, .slice a n cap, vOrd o] w fun e w' => e = .returned (.bool (ascB (ltC (cfO o)) d)) ∧ Below w.heap.size w w' := by
  have C : Aside (∀ W, Rd2 W a d → _) := fun W hW => isSorted_calls a cap n d o W hW hn hsz h0 h63
  obtain ⟨R, hR⟩ : ∃ R, R = ascB (ltC (cfO o)) d := ⟨_, rfl⟩
  rw [← hR] at C ⊢
  have H : Aside (Rd2 w a d) := h
  clear h hR hn hsz h0 h63
  obtain ⟨k, s, m0, m1, m2⟩ := o
  have hmf : ∀ (fn : Fn) (first cap : Array Value) (w : World), (Instr.makeFunc fn first cap).run Try.prog w = .ok (.func fn first cap) w := fun _ _ _ _ => rfl
  go_enter_defers Try.func21, Try.ntmps21
  go_wp2_with fail
  refine (C.out _ (H.out.below (((Below.refl _ w).alloc (Nat.le_refl _) _).alloc (by simp) _) (Nat.le_refl _))).mono ?_
  rintro e w1 ⟨rfl, hbel⟩
  simp only [World.size_alloc] at hbel
  have B1 : Aside (Below w.heap.size w w1) := (((Below.refl _ w).alloc (Nat.le_refl _) _).alloc (by simp) _).trans (hbel.mono (by omega))
  have ok1 := hbel.cell (p := ⟨w.heap.size + 1, 0, none⟩) (by dsimp only; omega)
  have fk1 := hbel.frozen (p := ⟨w.heap.size + 1, 0, none⟩) (by dsimp only; omega)
  simp at ok1 fk1
  clear hbel C H
  go_wp2_with fail
  obtain ⟨W3, e3⟩ : ∃ W, W = w1.setCell ⟨w.heap.size + 1, 0, none⟩ (.bool R) := ⟨_, rfl⟩
  have q3 : W3.cell? ⟨w.heap.size + 1, 0, none⟩ = some (.bool R) := by rw [e3]; exact World.cell?_setCell_same _ _ _ ok1
  have B3 : Aside (Below w.heap.size w W3) := by show Below _ _ _; rw [e3]; exact B1.out.setCell (by simp) _
  rw [← e3]
  clear e3 B1 ok1 fk1
  refine leaves_cons (f := 33) (args := #[.pointer (some ⟨w.heap.size + 1, 0, none⟩)]) (by simp) (by simp [go_sem]) ?_
  refine (guarded_idle _ _).mono ?_
  rintro e u' w'' ⟨rfl, rfl, rfl⟩
  simp [Leaves, settle, results, Try.results21, go_sem, q3]
  exact B3.out
end Go.Proofs.Ytglgmkikegbchaa
