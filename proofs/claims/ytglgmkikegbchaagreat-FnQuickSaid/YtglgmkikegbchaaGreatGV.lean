/- Texts of this claim, laid together: WcOrder2, WcMedian, WcMedianAdjacent, WcChoosePivot, WfOrder2, WfMedian, WfMedianAdjacent, WfChoosePivot, WoOrder2, WoMedian, WoMedianAdjacent, WoChoosePivot. -/
import Derived.Test.YtglgmkikegbchaaGreatWc0
import Derived.Test.YtglgmkikegbchaaGreatPb
import Derived.Test.YtglgmkikegbchaaGreatKb
import Derived.Test.YtglgmkikegbchaaGreatPd
import Derived.Test.YtglgmkikegbchaaGreatWf0
import Derived.Test.YtglgmkikegbchaaGreatWo0
/- order2: the text by a function that compares, over elements of two cells. -/
namespace Go.Proofs.YtglgmkikegbchaaGreat
open Go.RowKit Go.Sort

set_option maxHeartbeats 4000000 in
set_option maxRecDepth 1000000 in
theorem order2_c (O : Value) (cf : It → It → Int) (hC : CmpC O cf) (w0 : World) (blk off cap n : Nat) (d : Array It) (w : World) (S : St2 w0 blk off d w) (hn : d.size = n) (hsz : n < 4611686018427387904) (a b sb s : Nat) (ha : a < n) (hb : b < n) (hs : s < 1000) (Q : Box1 w0 w blk sb (.int .i64 s)) :
    Calls Tryz.prog 132 #[.slice (some ⟨blk, off, none⟩) n cap, .int .i64 a, .int .i64 b, .pointer (some ⟨sb, 0, none⟩), .func (.func 43) #[O] #[]] w fun e w' =>
      e = .returned (.tuple #[.int .i64 (order2 (ltC cf) d a b s).1, .int .i64 (order2 (ltC cf) d a b s).2.1]) ∧ St2 w0 blk off d w' ∧ Box1 w0 w' blk sb (.int .i64 (order2 (ltC cf) d a b s).2.2) := by
  have Q0 : Aside _ := Q
  clear Q
  have hsz' := hsz
  have mixed : Tryz.prog.follows .mixedOrders = true := by kernel_rfl
  have HC : Aside (CmpC O cf) := hC
  have S0 : Aside (St2 w0 blk off d w) := S
  clear S
  go_enter Tryz.func132, Tryz.ntmps132
  have bi1 : (b : Int) < (n : Int) := by omega
  have ri1 : IntKind.i64.wrap ((b : Int)) = (b : Int) := by rw [IntKind.wrap_i64]; omega
  have bj1 : (a : Int) < (n : Int) := by omega
  have rj1 : IntKind.i64.wrap ((a : Int)) = (a : Int) := by rw [IntKind.wrap_i64]; omega
  obtain ⟨⟨x1, x2⟩, hx⟩ : ∃ x : It, x = d[b]! := ⟨_, rfl⟩
  obtain ⟨⟨y1, y2⟩, hy⟩ : ∃ y : It, y = d[a]! := ⟨_, rfl⟩
  have c11 := fun n' os => (S0.out.cells (i := b) (by omega) hx n' os).1
  have c12 := fun n' os => (S0.out.cells (i := b) (by omega) hx n' os).2
  have c21 := fun n' os => (S0.out.cells (i := a) (by omega) hy n' os).1
  have c22 := fun n' os => (S0.out.cells (i := a) (by omega) hy n' os).2
  have hcc := CmpC.out HC (x1, x2) (y1, y2)
  dsimp only [vIt] at c11 c12 c21 c22 hcc
  obtain ⟨c, hc⟩ : ∃ c, c = cf (x1, x2) (y1, y2) := ⟨_, rfl⟩
  rw [← hc] at hcc
  have HV : Aside (ltC cf d[b]! d[a]! = decide (c < 0)) := by show ltC cf _ _ = _; rw [← hx, ← hy, hc]; rfl
  clear hx hy hc
  by_cases hcl : c < 0
  · have hcd : decide (c < 0) = true := decide_eq_true hcl
    replace HV := HV.out.trans hcd
    have HV' : Aside _ := HV
    clear HV
    go_wp2_with fail
    go_quiet_grown (first | (go_at_call 43; refine Calls.grown_of (hcc _)))
    have Q2 : Aside _ := Q0.out.grow nq osq
    have S2 : Aside _ := S0.out.grow nq osq
    clear c11 c12 c21 c22 hcc
    generalize grow (w.drewN nq) osq = w2 at S2 Q2 ⊢
    clear nq osq
    clear bi1 ri1 bj1 rj1
    have qc := Q2.out.cell
    have qf := Q2.out.frozen
    have S3 : Aside _ := S2.out.aside Q2.out (.int .i64 ((s : Int) + 1))
    have Q3 : Aside _ := Q2.out.set (.int .i64 ((s : Int) + 1))
    go_wp2_with fail
    clear qc qf
    generalize w2.setCell ⟨sb, 0, none⟩ (.int .i64 ((s : Int) + 1)) = w3 at S3 Q3 ⊢
    clear S2 Q2
    (try simp only [Exit.inBlock, Exit.then]); refine bodyPost_ret (results_tmp2 rfl _ _ _) rfl ?_
    have HE : order2 (ltC cf) d a b s = (b, a, s + 1) := by unfold order2; rw [if_pos HV'.out]
    rw [HE]
    exact ⟨rfl, S3.out, Q3.out⟩
  · have hcd : decide (c < 0) = false := decide_eq_false hcl
    replace HV := HV.out.trans hcd
    have HV' : Aside _ := HV
    clear HV
    go_wp2_with fail
    go_quiet_grown (first | (go_at_call 43; refine Calls.grown_of (hcc _)))
    have Q2 : Aside _ := Q0.out.grow nq osq
    have S2 : Aside _ := S0.out.grow nq osq
    clear c11 c12 c21 c22 hcc
    generalize grow (w.drewN nq) osq = w2 at S2 Q2 ⊢
    clear nq osq
    clear bi1 ri1 bj1 rj1
    go_wp2_with fail
    (try simp only [Exit.inBlock, Exit.then]); refine bodyPost_ret (results_tmp2 rfl _ _ _) rfl ?_
    have HE : order2 (ltC cf) d a b s = (a, b, s) := by unfold order2; rw [if_neg (by rw [HV'.out]; exact Bool.false_ne_true)]
    rw [HE]
    exact ⟨rfl, S2.out, Q2.out⟩
end Go.Proofs.YtglgmkikegbchaaGreat

/- median: the text by a function that compares, over elements of two cells. -/
namespace Go.Proofs.YtglgmkikegbchaaGreat
open Go.RowKit Go.Sort

set_option maxHeartbeats 4000000 in
set_option maxRecDepth 1000000 in
theorem median_c (O : Value) (cf : It → It → Int) (hC : CmpC O cf) (w0 : World) (blk off cap n : Nat) (d : Array It) (w : World) (S : St2 w0 blk off d w) (hn : d.size = n) (hsz : n < 4611686018427387904) (a b c sb s : Nat) (ha : a < n) (hb : b < n) (hcn : c < n) (hs : s < 900) (Q : Box1 w0 w blk sb (.int .i64 s)) :
    Calls Tryz.prog 133 #[.slice (some ⟨blk, off, none⟩) n cap, .int .i64 a, .int .i64 b, .int .i64 c, .pointer (some ⟨sb, 0, none⟩), .func (.func 43) #[O] #[]] w fun e w' =>
      e = .returned (.int .i64 (median (ltC cf) d a b c s).1) ∧ St2 w0 blk off d w' ∧ Box1 w0 w' blk sb (.int .i64 (median (ltC cf) d a b c s).2) := by
  have Q0 : Aside _ := Q
  clear Q
  have mixed : Tryz.prog.follows .mixedOrders = true := by kernel_rfl
  have HC : Aside (CmpC O cf) := hC
  have S0 : Aside (St2 w0 blk off d w) := S
  clear S
  go_enter Tryz.func133, Tryz.ntmps133
  obtain ⟨⟨x1, y1, s1⟩, h1⟩ : ∃ r, r = order2 (ltC cf) d a b s := ⟨_, rfl⟩
  have l1 := order2_in (ltC cf) d s ha hb
  have t1 := order2_count (ltC cf) d a b s
  have hc1 := order2_c O cf hC w0 blk off cap n d w S0.out hn hsz a b sb s ha hb (by omega) Q0.out
  rw [← h1] at l1 t1 hc1
  dsimp only at l1 t1 hc1
  have E1 : Hid (order2 (ltC cf) d a b s = (x1, y1, s1)) := h1.symm
  clear h1
  go_wp2_with fail
  refine hc1.mono ?_
  rintro e w11 ⟨rfl, S1q, Q1q⟩
  have S1 : Aside _ := S1q
  have Q1 : Aside _ := Q1q
  clear hc1 S1q Q1q
  obtain ⟨⟨x2, y2, s2⟩, h2⟩ : ∃ r, r = order2 (ltC cf) d y1 c s1 := ⟨_, rfl⟩
  have l2 := order2_in (ltC cf) d s1 l1.2 hcn
  have t2 := order2_count (ltC cf) d y1 c s1
  have hc2 := order2_c O cf hC w0 blk off cap n d w11 S1.out hn hsz y1 c sb s1 l1.2 hcn (by omega) Q1.out
  rw [← h2] at l2 t2 hc2
  dsimp only at l2 t2 hc2
  have E2 : Hid (order2 (ltC cf) d y1 c s1 = (x2, y2, s2)) := h2.symm
  clear h2
  go_wp2_with fail
  refine hc2.mono ?_
  rintro e w12 ⟨rfl, S2q, Q2q⟩
  have S2 : Aside _ := S2q
  have Q2 : Aside _ := Q2q
  clear hc2 S2q Q2q
  obtain ⟨⟨x3, y3, s3⟩, h3⟩ : ∃ r, r = order2 (ltC cf) d x1 x2 s2 := ⟨_, rfl⟩
  have l3 := order2_in (ltC cf) d s2 l1.1 l2.1
  have t3 := order2_count (ltC cf) d x1 x2 s2
  have hc3 := order2_c O cf hC w0 blk off cap n d w12 S2.out hn hsz x1 x2 sb s2 l1.1 l2.1 (by omega) Q2.out
  rw [← h3] at l3 t3 hc3
  dsimp only at l3 t3 hc3
  have E3 : Hid (order2 (ltC cf) d x1 x2 s2 = (x3, y3, s3)) := h3.symm
  clear h3
  go_wp2_with fail
  refine hc3.mono ?_
  rintro e w13 ⟨rfl, S3q, Q3q⟩
  have S3 : Aside _ := S3q
  have Q3 : Aside _ := Q3q
  clear hc3 S3q Q3q
  go_wp2_with fail
  go_ret
  have HE : median (ltC cf) d a b c s = (y3, s3) := by unfold median; rw [E1.out]; dsimp only; rw [E2.out]; dsimp only; rw [E3.out]
  rw [HE]
  exact ⟨rfl, S3.out, Q3.out⟩
end Go.Proofs.YtglgmkikegbchaaGreat

/- medianAdjacent: the text by a function that compares, over elements of two cells. -/
namespace Go.Proofs.YtglgmkikegbchaaGreat
open Go.RowKit Go.Sort

set_option maxHeartbeats 4000000 in
set_option maxRecDepth 1000000 in
theorem medianAdjacent_c (O : Value) (cf : It → It → Int) (hC : CmpC O cf) (w0 : World) (blk off cap n : Nat) (d : Array It) (w : World) (S : St2 w0 blk off d w) (hn : d.size = n) (hsz : n < 4611686018427387904) (a sb s : Nat) (ha1 : 1 ≤ a) (ha : a + 1 < n) (hs : s < 800) (Q : Box1 w0 w blk sb (.int .i64 s)) :
    Calls Tryz.prog 134 #[.slice (some ⟨blk, off, none⟩) n cap, .int .i64 a, .pointer (some ⟨sb, 0, none⟩), .func (.func 43) #[O] #[]] w fun e w' =>
      e = .returned (.int .i64 (medianAdjacent (ltC cf) d a s).1) ∧ St2 w0 blk off d w' ∧ Box1 w0 w' blk sb (.int .i64 (medianAdjacent (ltC cf) d a s).2) := by
  obtain ⟨ap, rfl⟩ : ∃ ap, a = ap + 1 := ⟨a - 1, by omega⟩
  have Q0 : Aside _ := Q
  clear Q
  have hc1 := median_c O cf hC w0 blk off cap n d w S hn hsz ap (ap + 1) (ap + 1 + 1) sb s (by omega) (by omega) (by omega) (by omega) Q0.out
  rw [show ((ap + 1 + 1 : Nat) : Int) = (ap : Int) + 1 + 1 by omega, show ((ap + 1 : Nat) : Int) = (ap : Int) + 1 by omega] at hc1
  have HM : median (ltC cf) d ap (ap + 1) (ap + 1 + 1) s = medianAdjacent (ltC cf) d (ap + 1) s := rfl
  rw [HM] at hc1
  clear HM
  have mixed : Tryz.prog.follows .mixedOrders = true := by kernel_rfl
  have HC : Aside (CmpC O cf) := hC
  have S0 : Aside (St2 w0 blk off d w) := S
  clear S
  go_enter Tryz.func134, Tryz.ntmps134
  go_wp2_with fail
  refine hc1.mono ?_
  rintro e w1 ⟨rfl, S1q, Q1q⟩
  have S1 : Aside _ := S1q
  have Q1 : Aside _ := Q1q
  clear hc1 S1q Q1q
  go_wp2_with fail
  go_ret
  exact ⟨rfl, S1.out, Q1.out⟩
end Go.Proofs.YtglgmkikegbchaaGreat

/- choosePivot: the text by a function that compares, over elements of two cells. -/
namespace Go.Proofs.YtglgmkikegbchaaGreat
open Go.RowKit Go.Sort

set_option maxHeartbeats 4000000 in
set_option maxRecDepth 1000000 in
theorem choosePivot_c (O : Value) (cf : It → It → Int) (hC : CmpC O cf) (w0 : World) (blk off cap n : Nat) (d : Array It) (w : World) (S : St2 w0 blk off d w) (hn : d.size = n) (hsz : n < 4611686018427387904) (a b : Nat) (hab : a ≤ b) (hb : b ≤ n) :
    Calls Tryz.prog 131 #[.slice (some ⟨blk, off, none⟩) n cap, .int .i64 a, .int .i64 b, .func (.func 43) #[O] #[]] w fun e w' =>
      e = .returned (.tuple #[.int .i64 (choosePivot (ltC cf) d a b).1, .int .i64 (hintCode (choosePivot (ltC cf) d a b).2)]) ∧ St2 w0 blk off d w' := by
  obtain ⟨L, hL⟩ : ∃ L, L = b - a := ⟨_, rfl⟩
  have hLz : (b : Int) - (a : Int) = (L : Int) := by omega
  have haL : a + L ≤ n := by omega
  have S1 : Aside (St2 w0 blk off d (w.alloc (.cells #[.int .i64 0] 3))) := S.alloc (.cells #[.int .i64 0] 3)
  have Q1 : Aside (Box1 w0 (w.alloc (.cells #[.int .i64 0] 3)) blk w.heap.size (.int .i64 ((0 : Nat) : Int))) := Box1.new w0 w blk _ _ S.grown.size S.lt
  have HL : Hid (b - a = L) := hL.symm
  clear hL hab hb
  have mixed : Tryz.prog.follows .mixedOrders = true := by kernel_rfl
  have HC : Aside (CmpC O cf) := hC
  have S0 : Aside (St2 w0 blk off d w) := S
  clear S
  go_enter Tryz.func131, Tryz.ntmps131
  by_cases h8 : L < 8
  · have h8z : ¬ 8 ≤ (L : Int) := by omega
    have HR : Hid (rawPivot (ltC cf) d a b = (a + L / 4 * 2, 0)) := by show _ = _; unfold rawPivot; rw [HL.out, if_neg (by omega)]
    have qc : (w.alloc (.cells #[.int .i64 0] 3)).cell? ⟨w.heap.size, 0, none⟩ = some (.int .i64 0) := Q1.out.cell
    go_wp2_with fail
    (try simp only [Exit.inBlock, Exit.then]); refine bodyPost_ret (results_tmp2 rfl _ _ _) rfl ?_
    rw [choosePivot_eq, HR.out]
    dsimp only
    refine ⟨?_, S1.out⟩
    rw [show hintOf 0 = .increasing from rfl]
    simp [hintCode]
  · have h8z : 8 ≤ (L : Int) := by omega
    obtain ⟨q, hq⟩ : ∃ q, q = L / 4 := ⟨_, rfl⟩
    have hq0 : 2 ≤ q := by omega
    have hq4 : 4 * q ≤ L := by omega
    have hqz : (L : Int) / 4 = (q : Int) := by omega
    have HQ : Hid (L / 4 = q) := hq.symm
    clear hq
    by_cases h50 : L < 50
    · have h50z : ¬ 50 ≤ (L : Int) := by omega
      obtain ⟨⟨x1, s1⟩, h1⟩ : ∃ r, r = median (ltC cf) d (a + q * 1) (a + q * 2) (a + q * 3) 0 := ⟨_, rfl⟩
      have hc1 := median_c O cf hC w0 blk off cap n d _ S1.out hn hsz (a + q * 1) (a + q * 2) (a + q * 3) w.heap.size 0 (by omega) (by omega) (by omega) (by omega) Q1.out
      rw [← h1] at hc1
      dsimp only at hc1
      rw [show ((a + q * 1 : Nat) : Int) = (a : Int) + (q : Int) by omega] at hc1
      rw [show ((a + q * 2 : Nat) : Int) = (a : Int) + (q : Int) * 2 by omega] at hc1
      rw [show ((a + q * 3 : Nat) : Int) = (a : Int) + (q : Int) * 3 by omega] at hc1
      have HR : Hid (rawPivot (ltC cf) d a b = (x1, s1)) := by show _ = _; unfold rawPivot; rw [HL.out, HQ.out, if_pos (by omega), if_neg (by omega)]; exact h1.symm
      clear h1
      go_wp2_with fail
      refine hc1.mono ?_
      rintro e w1 ⟨rfl, S2q, Q2q⟩
      have S2 : Aside _ := S2q
      have Q2 : Aside _ := Q2q
      clear hc1 S2q Q2q
      have qc := Q2.out.cell
      by_cases hs0 : s1 = 0
      · have hs0z : (s1 : Int) = 0 := by omega
        go_wp2_with fail
        (try simp only [Exit.inBlock, Exit.then]); refine bodyPost_ret (results_tmp2 rfl _ _ _) rfl ?_
        rw [choosePivot_eq, HR.out]
        dsimp only
        rw [show hintOf s1 = .increasing from by unfold hintOf; rw [if_pos hs0]]
        exact ⟨rfl, S2.out⟩
      · have hs0z : ¬ (s1 : Int) = 0 := by omega
        by_cases hs12 : s1 = 12
        · have hs12z : (s1 : Int) = 12 := by omega
          go_wp2_with fail
          (try simp only [Exit.inBlock, Exit.then]); refine bodyPost_ret (results_tmp2 rfl _ _ _) rfl ?_
          rw [choosePivot_eq, HR.out]
          dsimp only
          rw [show hintOf s1 = .decreasing from by unfold hintOf; rw [if_neg hs0, if_pos hs12]]
          exact ⟨rfl, S2.out⟩
        · have hs12z : ¬ (s1 : Int) = 12 := by omega
          go_wp2_with fail
          (try simp only [Exit.inBlock, Exit.then]); refine bodyPost_ret (results_tmp2 rfl _ _ _) rfl ?_
          rw [choosePivot_eq, HR.out]
          dsimp only
          rw [show hintOf s1 = .unknown from by unfold hintOf; rw [if_neg hs0, if_neg hs12]]
          exact ⟨rfl, S2.out⟩
    · have h50z : 50 ≤ (L : Int) := by omega
      obtain ⟨⟨x1, s1⟩, h1⟩ : ∃ r, r = medianAdjacent (ltC cf) d (a + q * 1) 0 := ⟨_, rfl⟩
      have l1 := medianAdjacent_in (ltC cf) d 0 (show a + q * 1 + 1 < n by omega)
      have t1 := medianAdjacent_count (ltC cf) d (a + q * 1) 0
      have hc1 := medianAdjacent_c O cf hC w0 blk off cap n d _ S1.out hn hsz (a + q * 1) w.heap.size 0 (by omega) (by omega) (by omega) Q1.out
      rw [← h1] at l1 t1 hc1
      dsimp only at l1 t1 hc1
      have E1 : Hid (medianAdjacent (ltC cf) d (a + q * 1) 0 = (x1, s1)) := h1.symm
      clear h1
      rw [show ((a + q * 1 : Nat) : Int) = (a : Int) + (q : Int) by omega] at hc1
      go_wp2_with fail
      refine hc1.mono ?_
      rintro e w1 ⟨rfl, SS1q, QQ1q⟩
      have SS1 : Aside _ := SS1q
      have QQ1 : Aside _ := QQ1q
      clear hc1 SS1q QQ1q
      obtain ⟨⟨x2, s2⟩, h2⟩ : ∃ r, r = medianAdjacent (ltC cf) d (a + q * 2) s1 := ⟨_, rfl⟩
      have l2 := medianAdjacent_in (ltC cf) d s1 (show a + q * 2 + 1 < n by omega)
      have t2 := medianAdjacent_count (ltC cf) d (a + q * 2) s1
      have hc2 := medianAdjacent_c O cf hC w0 blk off cap n d w1 SS1.out hn hsz (a + q * 2) w.heap.size s1 (by omega) (by omega) (by omega) QQ1.out
      rw [← h2] at l2 t2 hc2
      dsimp only at l2 t2 hc2
      have E2 : Hid (medianAdjacent (ltC cf) d (a + q * 2) s1 = (x2, s2)) := h2.symm
      clear h2
      rw [show ((a + q * 2 : Nat) : Int) = (a : Int) + (q : Int) * 2 by omega] at hc2
      go_wp2_with fail
      refine hc2.mono ?_
      rintro e w2 ⟨rfl, SS2q, QQ2q⟩
      have SS2 : Aside _ := SS2q
      have QQ2 : Aside _ := QQ2q
      clear hc2 SS2q QQ2q
      obtain ⟨⟨x3, s3⟩, h3⟩ : ∃ r, r = medianAdjacent (ltC cf) d (a + q * 3) s2 := ⟨_, rfl⟩
      have l3 := medianAdjacent_in (ltC cf) d s2 (show a + q * 3 + 1 < n by omega)
      have t3 := medianAdjacent_count (ltC cf) d (a + q * 3) s2
      have hc3 := medianAdjacent_c O cf hC w0 blk off cap n d w2 SS2.out hn hsz (a + q * 3) w.heap.size s2 (by omega) (by omega) (by omega) QQ2.out
      rw [← h3] at l3 t3 hc3
      dsimp only at l3 t3 hc3
      have E3 : Hid (medianAdjacent (ltC cf) d (a + q * 3) s2 = (x3, s3)) := h3.symm
      clear h3
      rw [show ((a + q * 3 : Nat) : Int) = (a : Int) + (q : Int) * 3 by omega] at hc3
      go_wp2_with fail
      refine hc3.mono ?_
      rintro e w3 ⟨rfl, SS3q, QQ3q⟩
      have SS3 : Aside _ := SS3q
      have QQ3 : Aside _ := QQ3q
      clear hc3 SS3q QQ3q
      obtain ⟨⟨x4, s4⟩, h4⟩ : ∃ r, r = median (ltC cf) d x1 x2 x3 s3 := ⟨_, rfl⟩
      have hc4 := median_c O cf hC w0 blk off cap n d w3 SS3.out hn hsz x1 x2 x3 w.heap.size s3 l1 l2 l3 (by omega) QQ3.out
      rw [← h4] at hc4
      dsimp only at hc4
      have HR : Hid (rawPivot (ltC cf) d a b = (x4, s4)) := by show _ = _; unfold rawPivot; rw [HL.out, HQ.out, if_pos (by omega), if_pos (by omega), E1.out, E2.out, E3.out]; exact h4.symm
      clear h4
      go_wp2_with fail
      refine hc4.mono ?_
      rintro e w4 ⟨rfl, SS4q, QQ4q⟩
      have SS4 : Aside _ := SS4q
      have QQ4 : Aside _ := QQ4q
      clear hc4 SS4q QQ4q
      have qc := QQ4.out.cell
      by_cases hs0 : s4 = 0
      · have hs0z : (s4 : Int) = 0 := by omega
        go_wp2_with fail
        (try simp only [Exit.inBlock, Exit.then]); refine bodyPost_ret (results_tmp2 rfl _ _ _) rfl ?_
        rw [choosePivot_eq, HR.out]
        dsimp only
        rw [show hintOf s4 = .increasing from by unfold hintOf; rw [if_pos hs0]]
        exact ⟨rfl, SS4.out⟩
      · have hs0z : ¬ (s4 : Int) = 0 := by omega
        by_cases hs12 : s4 = 12
        · have hs12z : (s4 : Int) = 12 := by omega
          go_wp2_with fail
          (try simp only [Exit.inBlock, Exit.then]); refine bodyPost_ret (results_tmp2 rfl _ _ _) rfl ?_
          rw [choosePivot_eq, HR.out]
          dsimp only
          rw [show hintOf s4 = .decreasing from by unfold hintOf; rw [if_neg hs0, if_pos hs12]]
          exact ⟨rfl, SS4.out⟩
        · have hs12z : ¬ (s4 : Int) = 12 := by omega
          go_wp2_with fail
          (try simp only [Exit.inBlock, Exit.then]); refine bodyPost_ret (results_tmp2 rfl _ _ _) rfl ?_
          rw [choosePivot_eq, HR.out]
          dsimp only
          rw [show hintOf s4 = .unknown from by unfold hintOf; rw [if_neg hs0, if_neg hs12]]
          exact ⟨rfl, SS4.out⟩
end Go.Proofs.YtglgmkikegbchaaGreat

/- order2: the text over an Interface. -/
namespace Go.Proofs.YtglgmkikegbchaaGreat
open Go.RowKit Go.Sort

set_option maxHeartbeats 4000000 in
set_option maxRecDepth 1000000 in
theorem order2_f (T : TypeId) (rv : Value) (lt : It → It → Bool) (gl gs : Nat) (rl rs : Value) (w0 : World) (blk off n : Nat) (F : FaceOk T rv lt w0 blk off n gl gs rl rs) (d : Array It) (w : World) (S : St2 w0 blk off d w) (hn : d.size = n) (hsz : n < 4611686018427387904) (a b sb s : Nat) (ha : a < n) (hb : b < n) (hs : s < 1000) (Q : Box1 w0 w blk sb (.int .i64 s)) :
    Calls Tryz.prog 147 #[.iface T rv, .int .i64 a, .int .i64 b, .pointer (some ⟨sb, 0, none⟩)] w fun e w' =>
      e = .returned (.tuple #[.int .i64 (order2 lt d a b s).1, .int .i64 (order2 lt d a b s).2.1]) ∧ St2 w0 blk off d w' ∧ Box1 w0 w' blk sb (.int .i64 (order2 lt d a b s).2.2) := by
  have Q0 : Aside _ := Q
  clear Q
  have hsz' := hsz
  have eL := F.eL
  have eS := F.eS
  have S0 : Aside (St2 w0 blk off d w) := S
  clear S
  go_enter Tryz.func147, Tryz.ntmps147
  have mL := F.methL _ w S0.out
  have mS := F.methS _ w S0.out
  have hl := F.less d w (b) (a) (by omega) S0.out (by omega) (by omega)
  obtain ⟨c, hc⟩ : ∃ c, c = lt d[b]! d[a]! := ⟨_, rfl⟩
  rw [← hc] at hl
  have HV : Aside (lt d[b]! d[a]! = c) := hc.symm
  clear hc
  cases c with
  | true =>
    have HV' : Aside _ := HV
    clear HV
    go_wp2_with fail
    refine hl.mono ?_
    rintro e w' ⟨rfl, q, os, rfl⟩
    have Q2 : Aside _ := Q0.out.grow q os
    have S2 : Aside _ := S0.out.grow q os
    clear mL mS hl
    generalize grow (w.drewN q) os = w2 at S2 Q2 ⊢
    clear q os
    have mL := F.methL _ w2 S2.out
    have mS := F.methS _ w2 S2.out
    clear mL mS
    have qc := Q2.out.cell
    have qf := Q2.out.frozen
    have S3 : Aside _ := S2.out.aside Q2.out (.int .i64 ((s : Int) + 1))
    have Q3 : Aside _ := Q2.out.set (.int .i64 ((s : Int) + 1))
    go_wp2_with fail
    clear qc qf
    generalize w2.setCell ⟨sb, 0, none⟩ (.int .i64 ((s : Int) + 1)) = w3 at S3 Q3 ⊢
    clear S2 Q2
    (try simp only [Exit.inBlock, Exit.then]); refine bodyPost_ret (results_tmp2 rfl _ _ _) rfl ?_
    have HE : order2 lt d a b s = (b, a, s + 1) := by unfold order2; rw [if_pos HV'.out]
    rw [HE]
    exact ⟨rfl, S3.out, Q3.out⟩
  | false =>
    have HV' : Aside _ := HV
    clear HV
    go_wp2_with fail
    refine hl.mono ?_
    rintro e w' ⟨rfl, q, os, rfl⟩
    have Q2 : Aside _ := Q0.out.grow q os
    have S2 : Aside _ := S0.out.grow q os
    clear mL mS hl
    generalize grow (w.drewN q) os = w2 at S2 Q2 ⊢
    clear q os
    have mL := F.methL _ w2 S2.out
    have mS := F.methS _ w2 S2.out
    clear mL mS
    go_wp2_with fail
    (try simp only [Exit.inBlock, Exit.then]); refine bodyPost_ret (results_tmp2 rfl _ _ _) rfl ?_
    have HE : order2 lt d a b s = (a, b, s) := by unfold order2; rw [if_neg (by rw [HV'.out]; exact Bool.false_ne_true)]
    rw [HE]
    exact ⟨rfl, S2.out, Q2.out⟩
end Go.Proofs.YtglgmkikegbchaaGreat

/- median: the text over an Interface. -/
namespace Go.Proofs.YtglgmkikegbchaaGreat
open Go.RowKit Go.Sort

set_option maxHeartbeats 4000000 in
set_option maxRecDepth 1000000 in
theorem median_f (T : TypeId) (rv : Value) (lt : It → It → Bool) (gl gs : Nat) (rl rs : Value) (w0 : World) (blk off n : Nat) (F : FaceOk T rv lt w0 blk off n gl gs rl rs) (d : Array It) (w : World) (S : St2 w0 blk off d w) (hn : d.size = n) (hsz : n < 4611686018427387904) (a b c sb s : Nat) (ha : a < n) (hb : b < n) (hcn : c < n) (hs : s < 900) (Q : Box1 w0 w blk sb (.int .i64 s)) :
    Calls Tryz.prog 148 #[.iface T rv, .int .i64 a, .int .i64 b, .int .i64 c, .pointer (some ⟨sb, 0, none⟩)] w fun e w' =>
      e = .returned (.int .i64 (median lt d a b c s).1) ∧ St2 w0 blk off d w' ∧ Box1 w0 w' blk sb (.int .i64 (median lt d a b c s).2) := by
  have Q0 : Aside _ := Q
  clear Q
  have eL := F.eL
  have eS := F.eS
  have S0 : Aside (St2 w0 blk off d w) := S
  clear S
  go_enter Tryz.func148, Tryz.ntmps148
  obtain ⟨⟨x1, y1, s1⟩, h1⟩ : ∃ r, r = order2 lt d a b s := ⟨_, rfl⟩
  have l1 := order2_in lt d s ha hb
  have t1 := order2_count lt d a b s
  have hc1 := order2_f T rv lt gl gs rl rs w0 blk off n F d w S0.out hn hsz a b sb s ha hb (by omega) Q0.out
  rw [← h1] at l1 t1 hc1
  dsimp only at l1 t1 hc1
  have E1 : Hid (order2 lt d a b s = (x1, y1, s1)) := h1.symm
  clear h1
  go_wp2_with fail
  refine hc1.mono ?_
  rintro e w11 ⟨rfl, S1q, Q1q⟩
  have S1 : Aside _ := S1q
  have Q1 : Aside _ := Q1q
  clear hc1 S1q Q1q
  obtain ⟨⟨x2, y2, s2⟩, h2⟩ : ∃ r, r = order2 lt d y1 c s1 := ⟨_, rfl⟩
  have l2 := order2_in lt d s1 l1.2 hcn
  have t2 := order2_count lt d y1 c s1
  have hc2 := order2_f T rv lt gl gs rl rs w0 blk off n F d w11 S1.out hn hsz y1 c sb s1 l1.2 hcn (by omega) Q1.out
  rw [← h2] at l2 t2 hc2
  dsimp only at l2 t2 hc2
  have E2 : Hid (order2 lt d y1 c s1 = (x2, y2, s2)) := h2.symm
  clear h2
  go_wp2_with fail
  refine hc2.mono ?_
  rintro e w12 ⟨rfl, S2q, Q2q⟩
  have S2 : Aside _ := S2q
  have Q2 : Aside _ := Q2q
  clear hc2 S2q Q2q
  obtain ⟨⟨x3, y3, s3⟩, h3⟩ : ∃ r, r = order2 lt d x1 x2 s2 := ⟨_, rfl⟩
  have l3 := order2_in lt d s2 l1.1 l2.1
  have t3 := order2_count lt d x1 x2 s2
  have hc3 := order2_f T rv lt gl gs rl rs w0 blk off n F d w12 S2.out hn hsz x1 x2 sb s2 l1.1 l2.1 (by omega) Q2.out
  rw [← h3] at l3 t3 hc3
  dsimp only at l3 t3 hc3
  have E3 : Hid (order2 lt d x1 x2 s2 = (x3, y3, s3)) := h3.symm
  clear h3
  go_wp2_with fail
  refine hc3.mono ?_
  rintro e w13 ⟨rfl, S3q, Q3q⟩
  have S3 : Aside _ := S3q
  have Q3 : Aside _ := Q3q
  clear hc3 S3q Q3q
  go_wp2_with fail
  go_ret
  have HE : median lt d a b c s = (y3, s3) := by unfold median; rw [E1.out]; dsimp only; rw [E2.out]; dsimp only; rw [E3.out]
  rw [HE]
  exact ⟨rfl, S3.out, Q3.out⟩
end Go.Proofs.YtglgmkikegbchaaGreat

/- medianAdjacent: the text over an Interface. -/
namespace Go.Proofs.YtglgmkikegbchaaGreat
open Go.RowKit Go.Sort

set_option maxHeartbeats 4000000 in
set_option maxRecDepth 1000000 in
theorem medianAdjacent_f (T : TypeId) (rv : Value) (lt : It → It → Bool) (gl gs : Nat) (rl rs : Value) (w0 : World) (blk off n : Nat) (F : FaceOk T rv lt w0 blk off n gl gs rl rs) (d : Array It) (w : World) (S : St2 w0 blk off d w) (hn : d.size = n) (hsz : n < 4611686018427387904) (a sb s : Nat) (ha1 : 1 ≤ a) (ha : a + 1 < n) (hs : s < 800) (Q : Box1 w0 w blk sb (.int .i64 s)) :
    Calls Tryz.prog 149 #[.iface T rv, .int .i64 a, .pointer (some ⟨sb, 0, none⟩)] w fun e w' =>
      e = .returned (.int .i64 (medianAdjacent lt d a s).1) ∧ St2 w0 blk off d w' ∧ Box1 w0 w' blk sb (.int .i64 (medianAdjacent lt d a s).2) := by
  obtain ⟨ap, rfl⟩ : ∃ ap, a = ap + 1 := ⟨a - 1, by omega⟩
  have Q0 : Aside _ := Q
  clear Q
  have hc1 := median_f T rv lt gl gs rl rs w0 blk off n F d w S hn hsz ap (ap + 1) (ap + 1 + 1) sb s (by omega) (by omega) (by omega) (by omega) Q0.out
  rw [show ((ap + 1 + 1 : Nat) : Int) = (ap : Int) + 1 + 1 by omega, show ((ap + 1 : Nat) : Int) = (ap : Int) + 1 by omega] at hc1
  have HM : median lt d ap (ap + 1) (ap + 1 + 1) s = medianAdjacent lt d (ap + 1) s := rfl
  rw [HM] at hc1
  clear HM
  have eL := F.eL
  have eS := F.eS
  have S0 : Aside (St2 w0 blk off d w) := S
  clear S
  go_enter Tryz.func149, Tryz.ntmps149
  go_wp2_with fail
  refine hc1.mono ?_
  rintro e w1 ⟨rfl, S1q, Q1q⟩
  have S1 : Aside _ := S1q
  have Q1 : Aside _ := Q1q
  clear hc1 S1q Q1q
  go_wp2_with fail
  go_ret
  exact ⟨rfl, S1.out, Q1.out⟩
end Go.Proofs.YtglgmkikegbchaaGreat

/- choosePivot: the text over an Interface. -/
namespace Go.Proofs.YtglgmkikegbchaaGreat
open Go.RowKit Go.Sort

set_option maxHeartbeats 4000000 in
set_option maxRecDepth 1000000 in
theorem choosePivot_f (T : TypeId) (rv : Value) (lt : It → It → Bool) (gl gs : Nat) (rl rs : Value) (w0 : World) (blk off n : Nat) (F : FaceOk T rv lt w0 blk off n gl gs rl rs) (d : Array It) (w : World) (S : St2 w0 blk off d w) (hn : d.size = n) (hsz : n < 4611686018427387904) (a b : Nat) (hab : a ≤ b) (hb : b ≤ n) :
    Calls Tryz.prog 146 #[.iface T rv, .int .i64 a, .int .i64 b] w fun e w' =>
      e = .returned (.tuple #[.int .i64 (choosePivot lt d a b).1, .int .i64 (hintCode (choosePivot lt d a b).2)]) ∧ St2 w0 blk off d w' := by
  obtain ⟨L, hL⟩ : ∃ L, L = b - a := ⟨_, rfl⟩
  have hLz : (b : Int) - (a : Int) = (L : Int) := by omega
  have haL : a + L ≤ n := by omega
  have S1 : Aside (St2 w0 blk off d (w.alloc (.cells #[.int .i64 0] 3))) := S.alloc (.cells #[.int .i64 0] 3)
  have Q1 : Aside (Box1 w0 (w.alloc (.cells #[.int .i64 0] 3)) blk w.heap.size (.int .i64 ((0 : Nat) : Int))) := Box1.new w0 w blk _ _ S.grown.size S.lt
  have HL : Hid (b - a = L) := hL.symm
  clear hL hab hb
  have eL := F.eL
  have eS := F.eS
  have S0 : Aside (St2 w0 blk off d w) := S
  clear S
  go_enter Tryz.func146, Tryz.ntmps146
  by_cases h8 : L < 8
  · have h8z : ¬ 8 ≤ (L : Int) := by omega
    have HR : Hid (rawPivot lt d a b = (a + L / 4 * 2, 0)) := by show _ = _; unfold rawPivot; rw [HL.out, if_neg (by omega)]
    have qc : (w.alloc (.cells #[.int .i64 0] 3)).cell? ⟨w.heap.size, 0, none⟩ = some (.int .i64 0) := Q1.out.cell
    go_wp2_with fail
    (try simp only [Exit.inBlock, Exit.then]); refine bodyPost_ret (results_tmp2 rfl _ _ _) rfl ?_
    rw [choosePivot_eq, HR.out]
    dsimp only
    refine ⟨?_, S1.out⟩
    rw [show hintOf 0 = .increasing from rfl]
    simp [hintCode]
  · have h8z : 8 ≤ (L : Int) := by omega
    obtain ⟨q, hq⟩ : ∃ q, q = L / 4 := ⟨_, rfl⟩
    have hq0 : 2 ≤ q := by omega
    have hq4 : 4 * q ≤ L := by omega
    have hqz : (L : Int) / 4 = (q : Int) := by omega
    have HQ : Hid (L / 4 = q) := hq.symm
    clear hq
    by_cases h50 : L < 50
    · have h50z : ¬ 50 ≤ (L : Int) := by omega
      obtain ⟨⟨x1, s1⟩, h1⟩ : ∃ r, r = median lt d (a + q * 1) (a + q * 2) (a + q * 3) 0 := ⟨_, rfl⟩
      have hc1 := median_f T rv lt gl gs rl rs w0 blk off n F d _ S1.out hn hsz (a + q * 1) (a + q * 2) (a + q * 3) w.heap.size 0 (by omega) (by omega) (by omega) (by omega) Q1.out
      rw [← h1] at hc1
      dsimp only at hc1
      rw [show ((a + q * 1 : Nat) : Int) = (a : Int) + (q : Int) by omega] at hc1
      rw [show ((a + q * 2 : Nat) : Int) = (a : Int) + (q : Int) * 2 by omega] at hc1
      rw [show ((a + q * 3 : Nat) : Int) = (a : Int) + (q : Int) * 3 by omega] at hc1
      have HR : Hid (rawPivot lt d a b = (x1, s1)) := by show _ = _; unfold rawPivot; rw [HL.out, HQ.out, if_pos (by omega), if_neg (by omega)]; exact h1.symm
      clear h1
      go_wp2_with fail
      refine hc1.mono ?_
      rintro e w1 ⟨rfl, S2q, Q2q⟩
      have S2 : Aside _ := S2q
      have Q2 : Aside _ := Q2q
      clear hc1 S2q Q2q
      have qc := Q2.out.cell
      by_cases hs0 : s1 = 0
      · have hs0z : (s1 : Int) = 0 := by omega
        go_wp2_with fail
        (try simp only [Exit.inBlock, Exit.then]); refine bodyPost_ret (results_tmp2 rfl _ _ _) rfl ?_
        rw [choosePivot_eq, HR.out]
        dsimp only
        rw [show hintOf s1 = .increasing from by unfold hintOf; rw [if_pos hs0]]
        exact ⟨rfl, S2.out⟩
      · have hs0z : ¬ (s1 : Int) = 0 := by omega
        by_cases hs12 : s1 = 12
        · have hs12z : (s1 : Int) = 12 := by omega
          go_wp2_with fail
          (try simp only [Exit.inBlock, Exit.then]); refine bodyPost_ret (results_tmp2 rfl _ _ _) rfl ?_
          rw [choosePivot_eq, HR.out]
          dsimp only
          rw [show hintOf s1 = .decreasing from by unfold hintOf; rw [if_neg hs0, if_pos hs12]]
          exact ⟨rfl, S2.out⟩
        · have hs12z : ¬ (s1 : Int) = 12 := by omega
          go_wp2_with fail
          (try simp only [Exit.inBlock, Exit.then]); refine bodyPost_ret (results_tmp2 rfl _ _ _) rfl ?_
          rw [choosePivot_eq, HR.out]
          dsimp only
          rw [show hintOf s1 = .unknown from by unfold hintOf; rw [if_neg hs0, if_neg hs12]]
          exact ⟨rfl, S2.out⟩
    · have h50z : 50 ≤ (L : Int) := by omega
      obtain ⟨⟨x1, s1⟩, h1⟩ : ∃ r, r = medianAdjacent lt d (a + q * 1) 0 := ⟨_, rfl⟩
      have l1 := medianAdjacent_in lt d 0 (show a + q * 1 + 1 < n by omega)
      have t1 := medianAdjacent_count lt d (a + q * 1) 0
      have hc1 := medianAdjacent_f T rv lt gl gs rl rs w0 blk off n F d _ S1.out hn hsz (a + q * 1) w.heap.size 0 (by omega) (by omega) (by omega) Q1.out
      rw [← h1] at l1 t1 hc1
      dsimp only at l1 t1 hc1
      have E1 : Hid (medianAdjacent lt d (a + q * 1) 0 = (x1, s1)) := h1.symm
      clear h1
      rw [show ((a + q * 1 : Nat) : Int) = (a : Int) + (q : Int) by omega] at hc1
      go_wp2_with fail
      refine hc1.mono ?_
      rintro e w1 ⟨rfl, SS1q, QQ1q⟩
      have SS1 : Aside _ := SS1q
      have QQ1 : Aside _ := QQ1q
      clear hc1 SS1q QQ1q
      obtain ⟨⟨x2, s2⟩, h2⟩ : ∃ r, r = medianAdjacent lt d (a + q * 2) s1 := ⟨_, rfl⟩
      have l2 := medianAdjacent_in lt d s1 (show a + q * 2 + 1 < n by omega)
      have t2 := medianAdjacent_count lt d (a + q * 2) s1
      have hc2 := medianAdjacent_f T rv lt gl gs rl rs w0 blk off n F d w1 SS1.out hn hsz (a + q * 2) w.heap.size s1 (by omega) (by omega) (by omega) QQ1.out
      rw [← h2] at l2 t2 hc2
      dsimp only at l2 t2 hc2
      have E2 : Hid (medianAdjacent lt d (a + q * 2) s1 = (x2, s2)) := h2.symm
      clear h2
      rw [show ((a + q * 2 : Nat) : Int) = (a : Int) + (q : Int) * 2 by omega] at hc2
      go_wp2_with fail
      refine hc2.mono ?_
      rintro e w2 ⟨rfl, SS2q, QQ2q⟩
      have SS2 : Aside _ := SS2q
      have QQ2 : Aside _ := QQ2q
      clear hc2 SS2q QQ2q
      obtain ⟨⟨x3, s3⟩, h3⟩ : ∃ r, r = medianAdjacent lt d (a + q * 3) s2 := ⟨_, rfl⟩
      have l3 := medianAdjacent_in lt d s2 (show a + q * 3 + 1 < n by omega)
      have t3 := medianAdjacent_count lt d (a + q * 3) s2
      have hc3 := medianAdjacent_f T rv lt gl gs rl rs w0 blk off n F d w2 SS2.out hn hsz (a + q * 3) w.heap.size s2 (by omega) (by omega) (by omega) QQ2.out
      rw [← h3] at l3 t3 hc3
      dsimp only at l3 t3 hc3
      have E3 : Hid (medianAdjacent lt d (a + q * 3) s2 = (x3, s3)) := h3.symm
      clear h3
      rw [show ((a + q * 3 : Nat) : Int) = (a : Int) + (q : Int) * 3 by omega] at hc3
      go_wp2_with fail
      refine hc3.mono ?_
      rintro e w3 ⟨rfl, SS3q, QQ3q⟩
      have SS3 : Aside _ := SS3q
      have QQ3 : Aside _ := QQ3q
      clear hc3 SS3q QQ3q
      obtain ⟨⟨x4, s4⟩, h4⟩ : ∃ r, r = median lt d x1 x2 x3 s3 := ⟨_, rfl⟩
      have hc4 := median_f T rv lt gl gs rl rs w0 blk off n F d w3 SS3.out hn hsz x1 x2 x3 w.heap.size s3 l1 l2 l3 (by omega) QQ3.out
      rw [← h4] at hc4
      dsimp only at hc4
      have HR : Hid (rawPivot lt d a b = (x4, s4)) := by show _ = _; unfold rawPivot; rw [HL.out, HQ.out, if_pos (by omega), if_pos (by omega), E1.out, E2.out, E3.out]; exact h4.symm
      clear h4
      go_wp2_with fail
      refine hc4.mono ?_
      rintro e w4 ⟨rfl, SS4q, QQ4q⟩
      have SS4 : Aside _ := SS4q
      have QQ4 : Aside _ := QQ4q
      clear hc4 SS4q QQ4q
      have qc := QQ4.out.cell
      by_cases hs0 : s4 = 0
      · have hs0z : (s4 : Int) = 0 := by omega
        go_wp2_with fail
        (try simp only [Exit.inBlock, Exit.then]); refine bodyPost_ret (results_tmp2 rfl _ _ _) rfl ?_
        rw [choosePivot_eq, HR.out]
        dsimp only
        rw [show hintOf s4 = .increasing from by unfold hintOf; rw [if_pos hs0]]
        exact ⟨rfl, SS4.out⟩
      · have hs0z : ¬ (s4 : Int) = 0 := by omega
        by_cases hs12 : s4 = 12
        · have hs12z : (s4 : Int) = 12 := by omega
          go_wp2_with fail
          (try simp only [Exit.inBlock, Exit.then]); refine bodyPost_ret (results_tmp2 rfl _ _ _) rfl ?_
          rw [choosePivot_eq, HR.out]
          dsimp only
          rw [show hintOf s4 = .decreasing from by unfold hintOf; rw [if_neg hs0, if_pos hs12]]
          exact ⟨rfl, SS4.out⟩
        · have hs12z : ¬ (s4 : Int) = 12 := by omega
          go_wp2_with fail
          (try simp only [Exit.inBlock, Exit.then]); refine bodyPost_ret (results_tmp2 rfl _ _ _) rfl ?_
          rw [choosePivot_eq, HR.out]
          dsimp only
          rw [show hintOf s4 = .unknown from by unfold hintOf; rw [if_neg hs0, if_neg hs12]]
          exact ⟨rfl, SS4.out⟩
end Go.Proofs.YtglgmkikegbchaaGreat

/- order2: the text over the keys alone. -/
namespace Go.Proofs.YtglgmkikegbchaaGreat
open Go.RowKit Go.Sort

set_option maxHeartbeats 4000000 in
set_option maxRecDepth 1000000 in
theorem order2_o (w0 : World) (blk off cap n : Nat) (d : Array Int) (w : World) (S : St1 e64 w0 blk off d w) (hn : d.size = n) (hsz : n < 4611686018427387904) (a b sb s : Nat) (ha : a < n) (hb : b < n) (hs : s < 1000) (Q : Box1 w0 w blk sb (.int .i64 s)) :
    Calls Tryz.prog 163 #[.slice (some ⟨blk, off, none⟩) n cap, .int .i64 a, .int .i64 b, .pointer (some ⟨sb, 0, none⟩)] w fun e w' =>
      e = .returned (.tuple #[.int .i64 (order2 ltInt d a b s).1, .int .i64 (order2 ltInt d a b s).2.1]) ∧ St1 e64 w0 blk off d w' ∧ Box1 w0 w' blk sb (.int .i64 (order2 ltInt d a b s).2.2) := by
  have Q0 : Aside _ := Q
  clear Q
  have hsz' := hsz
  have S0 : Aside (St1 e64 w0 blk off d w) := S
  clear S
  go_enter Tryz.func163, Tryz.ntmps163
  have bi1 : (b : Int) < (n : Int) := by omega
  have bj1 : (a : Int) < (n : Int) := by omega
  obtain ⟨x, hx⟩ : ∃ x, x = d[b]! := ⟨_, rfl⟩
  obtain ⟨y, hy⟩ : ∃ y, y = d[a]! := ⟨_, rfl⟩
  have c1 : w.cell? ⟨blk, off + (b), none⟩ = some (.int .i64 x) := by rw [hx]; exact S0.out.cell (by omega)
  have c2 : w.cell? ⟨blk, off + (a), none⟩ = some (.int .i64 y) := by rw [hy]; exact S0.out.cell (by omega)
  have hless : ∀ c W, ltInt x y = c → Calls Tryz.prog 178 #[.int .i64 x, .int .i64 y] W fun e w' => e = .returned (.bool c) ∧ w' = W := fun c W hc => by rw [← hc]; exact less_o x y W
  obtain ⟨c, hc⟩ : ∃ c, c = ltInt x y := ⟨_, rfl⟩
  have HV : Aside (ltInt d[b]! d[a]! = c) := by show ltInt _ _ = _; rw [← hx, ← hy, hc]
  replace hless := fun W => hless c W hc.symm
  clear hx hy hc
  cases c with
  | true =>
    have HV' : Aside _ := HV
    clear HV
    go_wp2_with fail
    go_quiet (first | (go_at_call 178; refine Calls.quiet_of_same (hless _)))
    have Q2 : Aside _ := Q0.out.drewN nq
    have S2 : Aside _ := S0.out.drewN nq
    clear c1 c2 hless
    generalize w.drewN nq = w2 at S2 Q2 ⊢
    clear nq
    clear bi1 bj1
    have qc := Q2.out.cell
    have qf := Q2.out.frozen
    have S3 : Aside _ := S2.out.aside Q2.out (.int .i64 ((s : Int) + 1))
    have Q3 : Aside _ := Q2.out.set (.int .i64 ((s : Int) + 1))
    go_wp2_with fail
    clear qc qf
    generalize w2.setCell ⟨sb, 0, none⟩ (.int .i64 ((s : Int) + 1)) = w3 at S3 Q3 ⊢
    clear S2 Q2
    (try simp only [Exit.inBlock, Exit.then]); refine bodyPost_ret (results_tmp2 rfl _ _ _) rfl ?_
    have HE : order2 ltInt d a b s = (b, a, s + 1) := by unfold order2; rw [if_pos HV'.out]
    rw [HE]
    exact ⟨rfl, S3.out, Q3.out⟩
  | false =>
    have HV' : Aside _ := HV
    clear HV
    go_wp2_with fail
    go_quiet (first | (go_at_call 178; refine Calls.quiet_of_same (hless _)))
    have Q2 : Aside _ := Q0.out.drewN nq
    have S2 : Aside _ := S0.out.drewN nq
    clear c1 c2 hless
    generalize w.drewN nq = w2 at S2 Q2 ⊢
    clear nq
    clear bi1 bj1
    go_wp2_with fail
    (try simp only [Exit.inBlock, Exit.then]); refine bodyPost_ret (results_tmp2 rfl _ _ _) rfl ?_
    have HE : order2 ltInt d a b s = (a, b, s) := by unfold order2; rw [if_neg (by rw [HV'.out]; exact Bool.false_ne_true)]
    rw [HE]
    exact ⟨rfl, S2.out, Q2.out⟩
end Go.Proofs.YtglgmkikegbchaaGreat

/- median: the text over the keys alone. -/
namespace Go.Proofs.YtglgmkikegbchaaGreat
open Go.RowKit Go.Sort

set_option maxHeartbeats 4000000 in
set_option maxRecDepth 1000000 in
theorem median_o (w0 : World) (blk off cap n : Nat) (d : Array Int) (w : World) (S : St1 e64 w0 blk off d w) (hn : d.size = n) (hsz : n < 4611686018427387904) (a b c sb s : Nat) (ha : a < n) (hb : b < n) (hcn : c < n) (hs : s < 900) (Q : Box1 w0 w blk sb (.int .i64 s)) :
    Calls Tryz.prog 164 #[.slice (some ⟨blk, off, none⟩) n cap, .int .i64 a, .int .i64 b, .int .i64 c, .pointer (some ⟨sb, 0, none⟩)] w fun e w' =>
      e = .returned (.int .i64 (median ltInt d a b c s).1) ∧ St1 e64 w0 blk off d w' ∧ Box1 w0 w' blk sb (.int .i64 (median ltInt d a b c s).2) := by
  have Q0 : Aside _ := Q
  clear Q
  have S0 : Aside (St1 e64 w0 blk off d w) := S
  clear S
  go_enter Tryz.func164, Tryz.ntmps164
  obtain ⟨⟨x1, y1, s1⟩, h1⟩ : ∃ r, r = order2 ltInt d a b s := ⟨_, rfl⟩
  have l1 := order2_in ltInt d s ha hb
  have t1 := order2_count ltInt d a b s
  have hc1 := order2_o w0 blk off cap n d w S0.out hn hsz a b sb s ha hb (by omega) Q0.out
  rw [← h1] at l1 t1 hc1
  dsimp only at l1 t1 hc1
  have E1 : Hid (order2 ltInt d a b s = (x1, y1, s1)) := h1.symm
  clear h1
  go_wp2_with fail
  refine hc1.mono ?_
  rintro e w11 ⟨rfl, S1q, Q1q⟩
  have S1 : Aside _ := S1q
  have Q1 : Aside _ := Q1q
  clear hc1 S1q Q1q
  obtain ⟨⟨x2, y2, s2⟩, h2⟩ : ∃ r, r = order2 ltInt d y1 c s1 := ⟨_, rfl⟩
  have l2 := order2_in ltInt d s1 l1.2 hcn
  have t2 := order2_count ltInt d y1 c s1
  have hc2 := order2_o w0 blk off cap n d w11 S1.out hn hsz y1 c sb s1 l1.2 hcn (by omega) Q1.out
  rw [← h2] at l2 t2 hc2
  dsimp only at l2 t2 hc2
  have E2 : Hid (order2 ltInt d y1 c s1 = (x2, y2, s2)) := h2.symm
  clear h2
  go_wp2_with fail
  refine hc2.mono ?_
  rintro e w12 ⟨rfl, S2q, Q2q⟩
  have S2 : Aside _ := S2q
  have Q2 : Aside _ := Q2q
  clear hc2 S2q Q2q
  obtain ⟨⟨x3, y3, s3⟩, h3⟩ : ∃ r, r = order2 ltInt d x1 x2 s2 := ⟨_, rfl⟩
  have l3 := order2_in ltInt d s2 l1.1 l2.1
  have t3 := order2_count ltInt d x1 x2 s2
  have hc3 := order2_o w0 blk off cap n d w12 S2.out hn hsz x1 x2 sb s2 l1.1 l2.1 (by omega) Q2.out
  rw [← h3] at l3 t3 hc3
  dsimp only at l3 t3 hc3
  have E3 : Hid (order2 ltInt d x1 x2 s2 = (x3, y3, s3)) := h3.symm
  clear h3
  go_wp2_with fail
  refine hc3.mono ?_
  rintro e w13 ⟨rfl, S3q, Q3q⟩
  have S3 : Aside _ := S3q
  have Q3 : Aside _ := Q3q
  clear hc3 S3q Q3q
  go_wp2_with fail
  go_ret
  have HE : median ltInt d a b c s = (y3, s3) := by unfold median; rw [E1.out]; dsimp only; rw [E2.out]; dsimp only; rw [E3.out]
  rw [HE]
  exact ⟨rfl, S3.out, Q3.out⟩
end Go.Proofs.YtglgmkikegbchaaGreat

/- medianAdjacent: the text over the keys alone. -/
namespace Go.Proofs.YtglgmkikegbchaaGreat
open Go.RowKit Go.Sort

set_option maxHeartbeats 4000000 in
set_option maxRecDepth 1000000 in
theorem medianAdjacent_o (w0 : World) (blk off cap n : Nat) (d : Array Int) (w : World) (S : St1 e64 w0 blk off d w) (hn : d.size = n) (hsz : n < 4611686018427387904) (a sb s : Nat) (ha1 : 1 ≤ a) (ha : a + 1 < n) (hs : s < 800) (Q : Box1 w0 w blk sb (.int .i64 s)) :
    Calls Tryz.prog 165 #[.slice (some ⟨blk, off, none⟩) n cap, .int .i64 a, .pointer (some ⟨sb, 0, none⟩)] w fun e w' =>
      e = .returned (.int .i64 (medianAdjacent ltInt d a s).1) ∧ St1 e64 w0 blk off d w' ∧ Box1 w0 w' blk sb (.int .i64 (medianAdjacent ltInt d a s).2) := by
  obtain ⟨ap, rfl⟩ : ∃ ap, a = ap + 1 := ⟨a - 1, by omega⟩
  have Q0 : Aside _ := Q
  clear Q
  have hc1 := median_o w0 blk off cap n d w S hn hsz ap (ap + 1) (ap + 1 + 1) sb s (by omega) (by omega) (by omega) (by omega) Q0.out
  rw [show ((ap + 1 + 1 : Nat) : Int) = (ap : Int) + 1 + 1 by omega, show ((ap + 1 : Nat) : Int) = (ap : Int) + 1 by omega] at hc1
  have HM : median ltInt d ap (ap + 1) (ap + 1 + 1) s = medianAdjacent ltInt d (ap + 1) s := rfl
  rw [HM] at hc1
  clear HM
  have S0 : Aside (St1 e64 w0 blk off d w) := S
  clear S
  go_enter Tryz.func165, Tryz.ntmps165
  go_wp2_with fail
  refine hc1.mono ?_
  rintro e w1 ⟨rfl, S1q, Q1q⟩
  have S1 : Aside _ := S1q
  have Q1 : Aside _ := Q1q
  clear hc1 S1q Q1q
  go_wp2_with fail
  go_ret
  exact ⟨rfl, S1.out, Q1.out⟩
end Go.Proofs.YtglgmkikegbchaaGreat

/- choosePivot: the text over the keys alone. -/
namespace Go.Proofs.YtglgmkikegbchaaGreat
open Go.RowKit Go.Sort

set_option maxHeartbeats 4000000 in
set_option maxRecDepth 1000000 in
theorem choosePivot_o (w0 : World) (blk off cap n : Nat) (d : Array Int) (w : World) (S : St1 e64 w0 blk off d w) (hn : d.size = n) (hsz : n < 4611686018427387904) (a b : Nat) (hab : a ≤ b) (hb : b ≤ n) :
    Calls Tryz.prog 162 #[.slice (some ⟨blk, off, none⟩) n cap, .int .i64 a, .int .i64 b] w fun e w' =>
      e = .returned (.tuple #[.int .i64 (choosePivot ltInt d a b).1, .int .i64 (hintCode (choosePivot ltInt d a b).2)]) ∧ St1 e64 w0 blk off d w' := by
  obtain ⟨L, hL⟩ : ∃ L, L = b - a := ⟨_, rfl⟩
  have hLz : (b : Int) - (a : Int) = (L : Int) := by omega
  have haL : a + L ≤ n := by omega
  have S1 : Aside (St1 e64 w0 blk off d (w.alloc (.cells #[.int .i64 0] 3))) := S.alloc (.cells #[.int .i64 0] 3)
  have Q1 : Aside (Box1 w0 (w.alloc (.cells #[.int .i64 0] 3)) blk w.heap.size (.int .i64 ((0 : Nat) : Int))) := Box1.new w0 w blk _ _ S.grown.size S.lt
  have HL : Hid (b - a = L) := hL.symm
  clear hL hab hb
  have S0 : Aside (St1 e64 w0 blk off d w) := S
  clear S
  go_enter Tryz.func162, Tryz.ntmps162
  by_cases h8 : L < 8
  · have h8z : ¬ 8 ≤ (L : Int) := by omega
    have HR : Hid (rawPivot ltInt d a b = (a + L / 4 * 2, 0)) := by show _ = _; unfold rawPivot; rw [HL.out, if_neg (by omega)]
    have qc : (w.alloc (.cells #[.int .i64 0] 3)).cell? ⟨w.heap.size, 0, none⟩ = some (.int .i64 0) := Q1.out.cell
    go_wp2_with fail
    (try simp only [Exit.inBlock, Exit.then]); refine bodyPost_ret (results_tmp2 rfl _ _ _) rfl ?_
    rw [choosePivot_eq, HR.out]
    dsimp only
    refine ⟨?_, S1.out⟩
    rw [show hintOf 0 = .increasing from rfl]
    simp [hintCode]
  · have h8z : 8 ≤ (L : Int) := by omega
    obtain ⟨q, hq⟩ : ∃ q, q = L / 4 := ⟨_, rfl⟩
    have hq0 : 2 ≤ q := by omega
    have hq4 : 4 * q ≤ L := by omega
    have hqz : (L : Int) / 4 = (q : Int) := by omega
    have HQ : Hid (L / 4 = q) := hq.symm
    clear hq
    by_cases h50 : L < 50
    · have h50z : ¬ 50 ≤ (L : Int) := by omega
      obtain ⟨⟨x1, s1⟩, h1⟩ : ∃ r, r = median ltInt d (a + q * 1) (a + q * 2) (a + q * 3) 0 := ⟨_, rfl⟩
      have hc1 := median_o w0 blk off cap n d _ S1.out hn hsz (a + q * 1) (a + q * 2) (a + q * 3) w.heap.size 0 (by omega) (by omega) (by omega) (by omega) Q1.out
      rw [← h1] at hc1
      dsimp only at hc1
      rw [show ((a + q * 1 : Nat) : Int) = (a : Int) + (q : Int) by omega] at hc1
      rw [show ((a + q * 2 : Nat) : Int) = (a : Int) + (q : Int) * 2 by omega] at hc1
      rw [show ((a + q * 3 : Nat) : Int) = (a : Int) + (q : Int) * 3 by omega] at hc1
      have HR : Hid (rawPivot ltInt d a b = (x1, s1)) := by show _ = _; unfold rawPivot; rw [HL.out, HQ.out, if_pos (by omega), if_neg (by omega)]; exact h1.symm
      clear h1
      go_wp2_with fail
      refine hc1.mono ?_
      rintro e w1 ⟨rfl, S2q, Q2q⟩
      have S2 : Aside _ := S2q
      have Q2 : Aside _ := Q2q
      clear hc1 S2q Q2q
      have qc := Q2.out.cell
      by_cases hs0 : s1 = 0
      · have hs0z : (s1 : Int) = 0 := by omega
        go_wp2_with fail
        (try simp only [Exit.inBlock, Exit.then]); refine bodyPost_ret (results_tmp2 rfl _ _ _) rfl ?_
        rw [choosePivot_eq, HR.out]
        dsimp only
        rw [show hintOf s1 = .increasing from by unfold hintOf; rw [if_pos hs0]]
        exact ⟨rfl, S2.out⟩
      · have hs0z : ¬ (s1 : Int) = 0 := by omega
        by_cases hs12 : s1 = 12
        · have hs12z : (s1 : Int) = 12 := by omega
          go_wp2_with fail
          (try simp only [Exit.inBlock, Exit.then]); refine bodyPost_ret (results_tmp2 rfl _ _ _) rfl ?_
          rw [choosePivot_eq, HR.out]
          dsimp only
          rw [show hintOf s1 = .decreasing from by unfold hintOf; rw [if_neg hs0, if_pos hs12]]
          exact ⟨rfl, S2.out⟩
        · have hs12z : ¬ (s1 : Int) = 12 := by omega
          go_wp2_with fail
          (try simp only [Exit.inBlock, Exit.then]); refine bodyPost_ret (results_tmp2 rfl _ _ _) rfl ?_
          rw [choosePivot_eq, HR.out]
          dsimp only
          rw [show hintOf s1 = .unknown from by unfold hintOf; rw [if_neg hs0, if_neg hs12]]
          exact ⟨rfl, S2.out⟩
    · have h50z : 50 ≤ (L : Int) := by omega
      obtain ⟨⟨x1, s1⟩, h1⟩ : ∃ r, r = medianAdjacent ltInt d (a + q * 1) 0 := ⟨_, rfl⟩
      have l1 := medianAdjacent_in ltInt d 0 (show a + q * 1 + 1 < n by omega)
      have t1 := medianAdjacent_count ltInt d (a + q * 1) 0
      have hc1 := medianAdjacent_o w0 blk off cap n d _ S1.out hn hsz (a + q * 1) w.heap.size 0 (by omega) (by omega) (by omega) Q1.out
      rw [← h1] at l1 t1 hc1
      dsimp only at l1 t1 hc1
      have E1 : Hid (medianAdjacent ltInt d (a + q * 1) 0 = (x1, s1)) := h1.symm
      clear h1
      rw [show ((a + q * 1 : Nat) : Int) = (a : Int) + (q : Int) by omega] at hc1
      go_wp2_with fail
      refine hc1.mono ?_
      rintro e w1 ⟨rfl, SS1q, QQ1q⟩
      have SS1 : Aside _ := SS1q
      have QQ1 : Aside _ := QQ1q
      clear hc1 SS1q QQ1q
      obtain ⟨⟨x2, s2⟩, h2⟩ : ∃ r, r = medianAdjacent ltInt d (a + q * 2) s1 := ⟨_, rfl⟩
      have l2 := medianAdjacent_in ltInt d s1 (show a + q * 2 + 1 < n by omega)
      have t2 := medianAdjacent_count ltInt d (a + q * 2) s1
      have hc2 := medianAdjacent_o w0 blk off cap n d w1 SS1.out hn hsz (a + q * 2) w.heap.size s1 (by omega) (by omega) (by omega) QQ1.out
      rw [← h2] at l2 t2 hc2
      dsimp only at l2 t2 hc2
      have E2 : Hid (medianAdjacent ltInt d (a + q * 2) s1 = (x2, s2)) := h2.symm
      clear h2
      rw [show ((a + q * 2 : Nat) : Int) = (a : Int) + (q : Int) * 2 by omega] at hc2
      go_wp2_with fail
      refine hc2.mono ?_
      rintro e w2 ⟨rfl, SS2q, QQ2q⟩
      have SS2 : Aside _ := SS2q
      have QQ2 : Aside _ := QQ2q
      clear hc2 SS2q QQ2q
      obtain ⟨⟨x3, s3⟩, h3⟩ : ∃ r, r = medianAdjacent ltInt d (a + q * 3) s2 := ⟨_, rfl⟩
      have l3 := medianAdjacent_in ltInt d s2 (show a + q * 3 + 1 < n by omega)
      have t3 := medianAdjacent_count ltInt d (a + q * 3) s2
      have hc3 := medianAdjacent_o w0 blk off cap n d w2 SS2.out hn hsz (a + q * 3) w.heap.size s2 (by omega) (by omega) (by omega) QQ2.out
      rw [← h3] at l3 t3 hc3
      dsimp only at l3 t3 hc3
      have E3 : Hid (medianAdjacent ltInt d (a + q * 3) s2 = (x3, s3)) := h3.symm
      clear h3
      rw [show ((a + q * 3 : Nat) : Int) = (a : Int) + (q : Int) * 3 by omega] at hc3
      go_wp2_with fail
      refine hc3.mono ?_
      rintro e w3 ⟨rfl, SS3q, QQ3q⟩
      have SS3 : Aside _ := SS3q
      have QQ3 : Aside _ := QQ3q
      clear hc3 SS3q QQ3q
      obtain ⟨⟨x4, s4⟩, h4⟩ : ∃ r, r = median ltInt d x1 x2 x3 s3 := ⟨_, rfl⟩
      have hc4 := median_o w0 blk off cap n d w3 SS3.out hn hsz x1 x2 x3 w.heap.size s3 l1 l2 l3 (by omega) QQ3.out
      rw [← h4] at hc4
      dsimp only at hc4
      have HR : Hid (rawPivot ltInt d a b = (x4, s4)) := by show _ = _; unfold rawPivot; rw [HL.out, HQ.out, if_pos (by omega), if_pos (by omega), E1.out, E2.out, E3.out]; exact h4.symm
      clear h4
      go_wp2_with fail
      refine hc4.mono ?_
      rintro e w4 ⟨rfl, SS4q, QQ4q⟩
      have SS4 : Aside _ := SS4q
      have QQ4 : Aside _ := QQ4q
      clear hc4 SS4q QQ4q
      have qc := QQ4.out.cell
      by_cases hs0 : s4 = 0
      · have hs0z : (s4 : Int) = 0 := by omega
        go_wp2_with fail
        (try simp only [Exit.inBlock, Exit.then]); refine bodyPost_ret (results_tmp2 rfl _ _ _) rfl ?_
        rw [choosePivot_eq, HR.out]
        dsimp only
        rw [show hintOf s4 = .increasing from by unfold hintOf; rw [if_pos hs0]]
        exact ⟨rfl, SS4.out⟩
      · have hs0z : ¬ (s4 : Int) = 0 := by omega
        by_cases hs12 : s4 = 12
        · have hs12z : (s4 : Int) = 12 := by omega
          go_wp2_with fail
          (try simp only [Exit.inBlock, Exit.then]); refine bodyPost_ret (results_tmp2 rfl _ _ _) rfl ?_
          rw [choosePivot_eq, HR.out]
          dsimp only
          rw [show hintOf s4 = .decreasing from by unfold hintOf; rw [if_neg hs0, if_pos hs12]]
          exact ⟨rfl, SS4.out⟩
        · have hs12z : ¬ (s4 : Int) = 12 := by omega
          go_wp2_with fail
          (try simp only [Exit.inBlock, Exit.then]); refine bodyPost_ret (results_tmp2 rfl _ _ _) rfl ?_
          rw [choosePivot_eq, HR.out]
          dsimp only
          rw [show hintOf s4 = .unknown from by unfold hintOf; rw [if_neg hs0, if_neg hs12]]
          exact ⟨rfl, SS4.out⟩
end Go.Proofs.YtglgmkikegbchaaGreat
