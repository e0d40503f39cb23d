/- spec.below, spec.heap: a heap below a root, by a queue of places. -/
import Derived.Test.YtglgmkikegbchaaGreatGzHeapP
import Derived.Test.YtglgmkikegbchaaGreatGQueue
import Derived.Test.YtglgmkikegbchaaGreatGSOrd
import Derived.Test.YtglgmkikegbchaaGreatGBS
import Derived.BigQuiet
namespace Go.Proofs.YtglgmkikegbchaaGreat
open Go.RowKit Go.Sort

set_option maxHeartbeats 2000000 in
set_option maxRecDepth 1000000 in
theorem below_calls (i r : Nat) (hi : i ≤ 1000000) (w : World) : Calls Tryz.prog 115 #[.int .i64 i, .int .i64 r] w fun e w' => e = .returned (.bool (belowB i r)) ∧ w' = w := by
  obtain ⟨R, hR⟩ : ∃ R, R = belowB i r := ⟨_, rfl⟩
  rw [← hR]
  have HR : Aside (R = belowB i r) := hR
  clear hR
  go_enter Tryz.func115, Tryz.ntmps115
  go_wp2_with fail
  go_loopg [0] i (fun g vi wr => ∃ j : Nat, vi = .int .i64 j ∧ j ≤ g ∧ j ≤ 1000000 ∧ Aside (belowB j r = R) ∧ wr = w)
  case atStart => exact ⟨i, rfl, Nat.le_refl _, hi, HR.out.symm, rfl⟩
  case round =>
    obtain ⟨j, rfl, hg, hj, HJ, rfl⟩ := hrel
    by_cases hlt : r < j
    · have hltz : (j : Int) > (r : Int) := by omega
      have hltz' : (r : Int) < (j : Int) := by omega
      have h1 : (1 : Int) ≤ (j : Int) := by omega
      have HJ' : Aside (belowB ((j - 1) / 2) r = R) := by show _ = _; rw [← HJ.out, below_gt hlt]
      go_wp2_with fail
      go_roundg ((j - 1) / 2)
      case measure => omega
      case rel => exact ⟨(j - 1) / 2, by congr 1; omega, Nat.le_refl _, by omega, HJ', rfl⟩
    · have hltz : ¬ (j : Int) > (r : Int) := by omega
      have hltz' : ¬ (r : Int) < (j : Int) := by omega
      have hB := below_le hlt
      rw [HJ.out] at hB
      by_cases he : j = r
      · have HB : Aside (R = true) := by show _ = _; rw [hB, decide_eq_true he]
        clear hB
        subst he
        go_wp2_with fail
        go_ret
        exact ⟨by rw [HB.out]; rfl, rfl⟩
      · have HB : Aside (R = false) := by show _ = _; rw [hB, decide_eq_false he]
        have hez : ¬ (j : Int) = (r : Int) := by omega
        clear hB
        go_wp2_with fail
        go_ret
        exact ⟨by rw [HB.out]; show Ending.returned (.bool ((j : Int) == (r : Int))) = _; rw [beq_eq_false_iff_ne.2 hez], rfl⟩

/-- What heap tells. -/
def HeapTo (w : World) (H : Prop) (e : Ending) (w' : World) : Prop := ∃ b : Bool, e = .returned (.bool b) ∧ (b = true ↔ H) ∧ Below w.heap.size w w'
theorem HeapTo.mk {w : World} {H : Prop} {e : Ending} {w' : World} (b : Bool) (h1 : e = .returned (.bool b)) (h2 : b = true ↔ H) (h3 : Below w.heap.size w w') : HeapTo w H e w' := ⟨b, h1, h2, h3⟩

abbrev encQ (q : List Nat) : List Value := q.map fun x : Nat => Value.int .i64 (x : Int)
theorem encQ_snoc (q : List Nat) (c : Nat) : encQ (q ++ [c]) = encQ q ++ [.int .i64 (c : Int)] := by simp [encQ]

set_option maxHeartbeats 8000000 in
set_option maxRecDepth 1000000 in
theorem heap_calls (blk off cap n root : Nat) (g : Nat → It) (o : Ordr) (w : World) (hbl : blk < w.heap.size) (hc : ∀ i, i < n → w.cell? ⟨blk, off + i * 2, none⟩ = some (.int .i64 (g i).1) ∧ w.cell? ⟨blk, off + i * 2 + 1, none⟩ = some (.int .i64 (g i).2)) (hsz : n ≤ 2000) (hs0 : 0 ≤ o.shift) (hs1 : o.shift < 64) (hr : root ≤ 10000) :
    Calls Tryz.prog 48 #[.slice (some ⟨blk, off, none⟩) n cap, vOrd o, .int .i64 root] w (HeapTo w (HeapAt (ltC (cfO o)) g n root)) := by
  have LC := fun x y W => sless_calls o hs0 hs1 x y W
  generalize ltC (cfO o) = lt at LC ⊢
  have HC : Aside (∀ i, i < n → w.cell? ⟨blk, off + i * 2, none⟩ = some (.int .i64 (g i).1) ∧ w.cell? ⟨blk, off + i * 2 + 1, none⟩ = some (.int .i64 (g i).2)) := hc
  clear hc hs0 hs1
  obtain ⟨k, s, m0, m1, m2⟩ := o
  obtain ⟨i0, hi, hz0, hz1, hz2⟩ := info_parts (show (Tryz.prog.info? 3).map (fun i => (i.zero, i.size, i.bytes)) = some (some (.int .i64 0), 1, 8) by kernel_rfl)
  have hI : Aside (Tryz.prog.info? 3 = some i0 ∧ i0.zero = some (.int .i64 0) ∧ i0.size = 1 ∧ i0.bytes = 8) := ⟨hi, hz0, hz1, hz2⟩
  clear hi hz0 hz1 hz2
  have LC' : Aside (∀ x y W, Calls Tryz.prog 47 #[vOrd ⟨k, s, m0, m1, m2⟩, vIt x, vIt y] W fun e w' => e = .returned (.bool (lt x y)) ∧ Below W.heap.size W w') := LC
  clear LC
  obtain ⟨U, hU⟩ : ∃ U, U = w.alloc (.cells #[.int .i64 k, .int .i64 s, .int .u64 m0, .int .u64 m1, .int .u64 m2] 26) := ⟨_, rfl⟩
  have BU : Aside (Below w.heap.size w U) := by show Below _ _ _; rw [hU]; exact below_alloc _ _
  have KU : Aside (BoxK U w.heap.size k s m0 m1 m2) := by show BoxK _ _ _ _ _ _ _; rw [hU]; exact boxK_new _ _ _ _ _ _ _
  have mixed : Tryz.prog.follows .mixedOrders = true := by kernel_rfl
  go_enter Tryz.func48, Tryz.ntmps48
  go_upto_region 1 with fail
  rw [← hU]
  clear hU
  obtain ⟨V, hV⟩ : ∃ V, V = U.alloc (.cells #[.int .i64 (root : Int)] 3) := ⟨_, rfl⟩
  obtain ⟨B, hB⟩ : ∃ B, B = U.heap.size := ⟨_, rfl⟩
  have Q0 : Aside (QAt V B B (.slice (some ⟨B, 0, none⟩) 1 1) (encQ [root])) := by show QAt _ _ _ _ _; rw [hV, hB]; exact qAt_new _ _ _ _ (Nat.le_refl _)
  have B0 : Aside (Below B U V) := by show Below _ _ _; rw [hV, hB]; exact below_alloc _ _
  have HB : Aside (B = U.heap.size) := hB
  have hlB : Aside (blk < B ∧ w.heap.size < B) := ⟨by rw [hB]; exact Nat.lt_of_lt_of_le hbl BU.out.size, by rw [hB]; exact KU.out.1⟩
  go_upto_region 2 with fail
  rw [← hV, ← hB]
  generalize (Value.slice (some ⟨B, 0, none⟩) 1 1) = v0 at Q0 ⊢
  clear hV hB
  have Z0 : Aside (szL n [root] ≤ 4001) := by have := szB_bound n root; show szL n [root] ≤ 4001; rw [szL_cons]; show _ + 0 ≤ 4001; omega
  go_wp2_with fail
  go_loopg [7] (szL n [root]) (fun gm v wr => ∃ (q : List Nat) (gq : Nat), szL n q ≤ gm ∧ Aside (QAt wr B gq v (encQ q)) ∧ Aside (Below B U wr) ∧ Aside (szL n q ≤ 4001 ∧ (∀ x ∈ q, x ≤ 10000)) ∧ Aside (HeapAt lt g n root ↔ ∀ x ∈ q, HeapAt lt g n x))
  case atStart => exact ⟨[root], B, Nat.le_refl _, Q0, B0, ⟨Z0.out, fun x hx => by rw [List.mem_singleton.1 hx]; exact hr⟩, ⟨fun h x hx => by rw [List.mem_singleton.1 hx]; exact h, fun h => h _ (List.mem_singleton.2 rfl)⟩⟩
  case round =>
    clear Q0 B0 Z0
    obtain ⟨q, gq, hg, Qk, Bk, Zk, Hk⟩ := hrel
    cases q with
    | nil =>
      obtain ⟨oq, capq, rfl⟩ := Qk.out.bare
      clear hg
      go_wp2_with fail
      go_ret
      exact HeapTo.mk true rfl ⟨fun _ => Hk.out.2 (fun x hx => by cases hx), fun _ => rfl⟩ (BU.out.trans (Bk.out.mono (by have := BU.out.size; have := HB.out; omega)))
    | cons x q =>
      obtain ⟨oq, capq, rfl, hcap, hx0, hn1, hn2⟩ := Qk.out.form
      have hQl := Qk.out.lt
      obtain ⟨M, hM⟩ : ∃ M, M = (encQ q).length + 1 := ⟨_, rfl⟩
      rw [← hM] at hcap ⊢
      rw [show (encQ q).length = M - 1 by omega] at hn1 hn2
      have HM : Aside (M = (encQ q).length + 1) := hM
      have hM1 : 1 ≤ M := by omega
      have hM0 : 0 < M := by omega
      have hMz : (0 : Int) < (M : Int) := by omega
      have hMz1 : (1 : Int) ≤ (M : Int) := by omega
      have hMzg : (M : Int) > 0 := by omega
      have hcz : (M : Int) ≤ (capq : Int) := by omega
      have hx1 : x ≤ 10000 := Zk.out.2 x (List.mem_cons_self)
      have hxz : (x : Int) ≤ 10000 := by omega
      have QN : Aside ((capq = 1 → QAt wr B gq (.slice (some ⟨gq, oq, none⟩) (M - 1) (capq - 1)) (encQ q)) ∧ (¬ capq = 1 → QAt wr B gq (.slice (some ⟨gq, oq + 1, none⟩) (M - 1) (capq - 1)) (encQ q))) := ⟨hn1, hn2⟩
      have HQL : Aside (B ≤ gq ∧ gq < wr.heap.size) := hQl
      clear hn1 hn2 hM hQl Qk
      have HG : Aside (_ ∧ szB n x + szL n q ≤ 4001) := ⟨hg, Zk.out.1⟩
      have HX : Aside (∀ y ∈ q, y ≤ 10000) := fun y hy => Zk.out.2 y (List.mem_cons_of_mem _ hy)
      have HK0 : Aside (HeapAt lt g n root ↔ (∀ y ∈ q, HeapAt lt g n y) ∧ Kids lt g n x 0) := by
        show _ ↔ _
        rw [Hk.out]
        constructor
        · intro h; exact ⟨fun y hy => h y (List.mem_cons_of_mem _ hy), kids_start.1 (h x List.mem_cons_self)⟩
        · intro h y hy
          rcases List.mem_cons.1 hy with rfl | hy
          · exact kids_start.2 h.2
          · exact h.1 y hy
      clear hg Zk Hk
      obtain ⟨W1, hW1⟩ : ∃ W, W = wr.alloc (.cells #[.int .i64 (2 * (x : Int) + 1), .int .i64 (2 * (x : Int) + 2)] 3) := ⟨_, rfl⟩
      obtain ⟨KB, hKB⟩ : ∃ K, K = wr.heap.size := ⟨_, rfl⟩
      have BW : Aside (Below wr.heap.size wr W1) := by show Below _ _ _; rw [hW1]; exact below_alloc _ _
      have NW : Aside (W1.heap[KB]? = some (.cells #[.int .i64 (2 * (x : Int) + 1), .int .i64 (2 * (x : Int) + 2)] 3 (0, 0))) := by show _ = _; rw [hW1, hKB]; exact heap_alloc_new _ _
      have HKB : Aside (gq ≠ KB ∧ KB < W1.heap.size ∧ B ≤ KB) := ⟨by rw [hKB]; have := HQL.out.2; omega, by rw [hW1, hKB]; simp, by rw [hKB]; have := HQL.out; omega⟩
      have B1 : Aside (Below B U W1) := by show Below _ _ _; exact Bk.out.trans (BW.out.mono (by have := HQL.out; omega))
      have K1 : Aside (∀ j, j < 2 → W1.cell? ⟨KB, j, none⟩ = some (.int .i64 ((2 * x + 1 + j : Nat) : Int))) := fun j hj => by
        rw [cell_of_row _ _ _ _ _ _ NW.out]
        rcases (show j = 0 ∨ j = 1 by omega) with rfl | rfl
        · show some (Value.int .i64 (2 * (x : Int) + 1)) = _; congr 2
        · show some (Value.int .i64 (2 * (x : Int) + 2)) = _; congr 2
      by_cases hc1 : capq = 1
      · subst hc1
        obtain rfl : M = 1 := by omega
        have Q1 : Aside (QAt W1 B gq (.slice (some ⟨gq, oq, none⟩) 0 0) (encQ q)) := (QN.out.1 rfl).keep BW.out
        clear QN
        go_upto_region 6 with fail
        rw [← hW1, ← hKB]
        clear hW1 hKB NW BW Bk HQL hx0 hcap hMz hMz1 hMzg hcz hM0 hM1 HM
        generalize (Value.slice (some ⟨gq, oq, none⟩) 0 0) = v1 at Q1 ⊢
        go_loopg [7, 29] 2 (fun gm v vi wj => ∃ (j : Nat) (q' : List Nat) (g' : Nat), vi = .int .i64 j ∧ j ≤ 2 ∧ 2 - j ≤ gm ∧ Aside (QAt wj B g' v (encQ q')) ∧ Aside (Below B U wj) ∧ Aside (szL n q' + szK n x j + 1 ≤ szB n x + szL n q) ∧ Aside (∀ y ∈ q', y ≤ 10000) ∧ Aside (g' ≠ KB ∧ KB < wj.heap.size ∧ B ≤ KB) ∧ Aside (∀ j, j < 2 → wj.cell? ⟨KB, j, none⟩ = some (.int .i64 ((2 * x + 1 + j : Nat) : Int))) ∧ Aside (HeapAt lt g n root ↔ (∀ y ∈ q', HeapAt lt g n y) ∧ Kids lt g n x j))
        case atStart => exact ⟨0, q, gq, rfl, by omega, by omega, Q1, B1, by have := szK_start n x; show szL n q + szK n x 0 + 1 ≤ _; omega, HX, HKB, K1, HK0⟩
        case round =>
          clear Q1 B1 HX HKB K1 HK0
          obtain ⟨j, q', g', rfl, hj, hgj, Qj, Bj, Zj, Xj, Kj, Cj, Hj⟩ := hrel
          by_cases hj2 : j < 2
          · have hj2z : (j : Int) < 2 := by omega
            obtain ⟨c, hcdef⟩ : ∃ c, c = 2 * x + 1 + j := ⟨_, rfl⟩
            have hcell := Cj.out j hj2
            rw [← hcdef] at hcell
            have HCD : Aside (c = 2 * x + 1 + j) := hcdef
            clear hcdef
            by_cases hxn : x < n
            · by_cases hcn : c < n
              · have hxnz : (x : Int) < (n : Int) := by omega
                have hcnz : (c : Int) < (n : Int) := by omega
                obtain ⟨⟨x1, x2⟩, hx⟩ : ∃ v : It, v = g x := ⟨_, rfl⟩
                obtain ⟨⟨y1, y2⟩, hy⟩ : ∃ v : It, v = g c := ⟨_, rfl⟩
                have BWj : Aside (Below w.heap.size w wr) := BU.out.trans (Bj.out.mono (by have := hlB.out.2; omega))
                have e1 := HC.out x hxn
                have e2 := HC.out c hcn
                rw [← hx] at e1
                rw [← hy] at e2
                have q1 := cell_regrown ((BWj.out.cell (p := ⟨blk, off + x * 2, none⟩) hbl).trans e1.1)
                have q2 := cell_regrown ((BWj.out.cell (p := ⟨blk, off + x * 2 + 1, none⟩) hbl).trans e1.2)
                have q3 := cell_regrown ((BWj.out.cell (p := ⟨blk, off + c * 2, none⟩) hbl).trans e2.1)
                have q4 := cell_regrown ((BWj.out.cell (p := ⟨blk, off + c * 2 + 1, none⟩) hbl).trans e2.2)
                dsimp only at q1 q2 q3 q4
                have kk : ∀ i, wr.cell? ⟨w.heap.size, i, none⟩ = U.cell? ⟨w.heap.size, i, none⟩ := fun i => Bj.out.cell (p := ⟨w.heap.size, i, none⟩) hlB.out.2
                obtain ⟨_, k0, k1, k2, k3, k4⟩ := KU.out
                have p0 := cell_regrown ((kk 0).trans k0)
                have p1 := cell_regrown ((kk 1).trans k1)
                have p2 := cell_regrown ((kk 2).trans k2)
                have p3 := cell_regrown ((kk 3).trans k3)
                have p4 := cell_regrown ((kk 4).trans k4)
                have wX : IntKind.i64.wrap (x : Int) = (x : Int) := by rw [IntKind.wrap_i64]; omega
                have wC : IntKind.i64.wrap (c : Int) = (c : Int) := by rw [IntKind.wrap_i64]; omega
                obtain ⟨r, hr0⟩ : ∃ r, r = lt (x1, x2) (y1, y2) := ⟨_, rfl⟩
                have HV : Aside (lt (g x) (g c) = r) := by show lt _ _ = _; rw [← hx, ← hy, hr0]
                have C1 : ∀ p : Regrown, Calls Tryz.prog 47 #[.agg #[.int .i64 k, .int .i64 s, .int .u64 m0, .int .u64 m1, .int .u64 m2], .agg #[.int .i64 x1, .int .i64 x2], .agg #[.int .i64 y1, .int .i64 y2]] (grow (redrawn wr p.d) p.os) fun e w'' => e = .returned (.bool r) ∧ ∃ p : Regrown, w'' = grow (redrawn wr p.d) p.os := fun p => Calls.regrown_of (by rw [hr0]; exact LC'.out (x1, x2) (y1, y2) _)
                clear e1 e2 kk k0 k1 k2 k3 k4 hx hy hr0
                cases r with
                | true =>
                  go_upto_region 9 with fail
                  clear hcell
                  refine wp_region_quiet_below (by assumption) (by kernel_rfl) ?_
                  repeat' (quiet_step (with_reducible exact C1 _))
                  all_goals
                    refine wpQuiet_nil ?_
                    intro _ hw'
                    obtain ⟨⟨nq, osq⟩, hw''⟩ := hw'
                    subst hw''
                  have B2 : Aside (Below w.heap.size w (grow (redrawn wr nq) osq)) := Below.next BWj.out (below_regrown wr nq osq)
                  clear C1 q1 q2 q3 q4 p0 p1 p2 p3 p4 wX wC
                  go_wp2_with fail
                  (try simp only [Exit.inBlock, Exit.then]); refine bodyPost_ret (results_tmp rfl _ _ _) rfl ?_
                  refine HeapTo.mk false rfl ⟨fun h => absurd h (by decide), fun h => ?_⟩ B2.out
                  have h1 := (Hj.out.1 h).2 j (Nat.le_refl _) hj2 hxn (by rw [← HCD.out]; exact hcn)
                  rw [← HCD.out, HV.out] at h1
                  cases h1.1
                | false =>
                  go_upto_region 9 with fail
                  clear hcell
                  refine wp_region_quiet_below (by assumption) (by kernel_rfl) ?_
                  repeat' (quiet_step (with_reducible exact C1 _))
                  all_goals
                    refine wpQuiet_nil ?_
                    intro _ hw'
                    obtain ⟨⟨nq, osq⟩, hw''⟩ := hw'
                    subst hw''
                  have B2 : Aside (Below wr.heap.size wr (grow (redrawn wr nq) osq)) := below_regrown wr nq osq
                  generalize grow (redrawn wr nq) osq = w3 at B2 ⊢
                  clear C1 q1 q2 q3 q4 p0 p1 p2 p3 p4 wX wC nq osq BWj
                  obtain ⟨W4, hW4⟩ : ∃ W, W = w3.alloc (.cells #[.int .i64 (c : Int)] 3) := ⟨_, rfl⟩
                  have B4 : Aside (Below wr.heap.size wr W4) := by show Below _ _ _; rw [hW4]; exact Below.next B2.out (below_alloc _ _)
                  have N4 : W4.cell? ⟨w3.heap.size, 0, none⟩ = some (.int .i64 (c : Int)) := by rw [hW4]; exact cell_of_row _ _ 0 _ _ _ (heap_alloc_new _ _)
                  have Q4 : Aside (QAt W4 B g' u7 (encQ q')) := Qj.out.keep B4.out
                  have L4 : Aside ((encQ q').length ≤ 1000000) := by
                    show (q'.map _).length ≤ _
                    rw [List.length_map]
                    have := szL_len n q'; have := Zj.out; have := HG.out.2; omega
                  have bB : Aside (B ≤ W4.heap.size) := Nat.le_trans (Nat.le_trans Kj.out.2.2 (Nat.le_of_lt Kj.out.2.1)) B4.out.size
                  have app : ∀ (Q : Exit → Act → World → Prop) (ops : Array Oper) (rest : List Oper) (o : Oper) (act : Act) (sa xa : Operand), o.guard = none → o.op = .call { callee := .builtin .append, args := #[sa, xa], argTypes := #[29, 29] } → act.eval sa = u7 → act.eval xa = .slice (some ⟨w3.heap.size, 0, none⟩) 1 1 →
                      (∀ g2 v' w', Aside (QAt w' B g2 v' (encQ q' ++ [.int .i64 (c : Int)]) ∧ (g2 = g' ∨ g2 = W4.heap.size) ∧ W4.grownBy w' (some g')) → wpList Tryz.prog ops Q rest (act.put o.dst v') w') → wpList Tryz.prog ops Q (o :: rest) act W4 := fun Q ops rest o act sa xa hgd ho hs hx hK => by
                    obtain ⟨hi, hz0, hz1, hz2⟩ := hI.out
                    exact wpList_append_q W4 hgd sa xa _ ho 3 i0 (.int .i64 0) Tryz.underlying29 hi hz0 hz1 hz2 rfl B g' u7 (encQ q') hs Q4.out ⟨w3.heap.size, 0, none⟩ 1 (.int .i64 (c : Int)) hx N4 rfl L4.out bB.out hK
                  rw [hW4] at app
                  go_upto_region 12 with (at_builtin; refine app _ _ _ _ _ _ _ rfl rfl rfl rfl ?_; intro g2 v2 w5 H5)
                  rw [← hW4] at H5
                  clear app hW4 N4
                  have B5 : Aside (Below B U w5) := Bj.out.trans ((B4.out.mono (by have := Kj.out; omega)).trans ⟨H5.out.2.2.os, H5.out.2.2.tape, H5.out.2.2.output, H5.out.2.2.size, fun i hi => H5.out.2.2.block i (by have := bB.out; omega) (fun e => by cases e; have := Q4.out.lt.1; omega)⟩)
                  have K5 : Aside (g2 ≠ KB ∧ KB < w5.heap.size ∧ B ≤ KB) := ⟨by rcases H5.out.2.1 with h | h; exact h ▸ Kj.out.1; (have := B4.out.size; have := Kj.out.2.1; omega), Nat.lt_of_lt_of_le Kj.out.2.1 (Nat.le_trans B4.out.size H5.out.2.2.size), Kj.out.2.2⟩
                  have C5 : Aside (∀ j, j < 2 → w5.cell? ⟨KB, j, none⟩ = some (.int .i64 ((2 * x + 1 + j : Nat) : Int))) := fun i hi => by
                    rw [World.cell?_of_block (w := W4) (H5.out.2.2.block KB (by have := B4.out.size; have := Kj.out.2.1; omega) (fun e => Kj.out.1 (by cases e; rfl))), B4.out.cell (p := ⟨KB, i, none⟩) Kj.out.2.1]
                    exact Cj.out i hi
                  have Q5 : Aside (QAt w5 B g2 v2 (encQ (q' ++ [c]))) := by show QAt _ _ _ _ _; rw [encQ_snoc]; exact H5.out.1
                  have hb5 : 2 * x + 1 + j < n := by rw [← HCD.out]; exact hcn
                  have Z5 : Aside (szL n (q' ++ [c]) + szK n x (j + 1) + 1 ≤ szB n x + szL n q) := by
                    show _ ≤ _
                    have h1 := szK_go (n := n) (i := x) (k := j) hj2 hxn hb5
                    have h2 := Zj.out
                    rw [szL_append, HCD.out, szL_cons]
                    show szL n q' + (szB n (2 * x + 1 + j) + 0) + _ + 1 ≤ _
                    omega
                  have X5 : Aside (∀ y ∈ q' ++ [c], y ≤ 10000) := fun y hy => by
                    rcases List.mem_append.1 hy with h | h
                    · exact Xj.out y h
                    · rw [List.mem_singleton.1 h]; omega
                  have H6 : Aside (HeapAt lt g n root ↔ (∀ y ∈ q' ++ [c], HeapAt lt g n y) ∧ Kids lt g n x (j + 1)) := by
                    show _ ↔ _
                    rw [Hj.out, kids_go hj2 hxn hb5 (by rw [← HCD.out]; exact HV.out), ← HCD.out]
                    constructor
                    · intro ⟨h1, h2, h3⟩
                      exact ⟨fun y hy => by rcases List.mem_append.1 hy with h | h; exact h1 y h; rw [List.mem_singleton.1 h]; exact h2, h3⟩
                    · intro ⟨h1, h2⟩
                      exact ⟨fun y hy => h1 y (List.mem_append_left _ hy), h1 c (List.mem_append_right _ (List.mem_singleton.2 rfl)), h2⟩
                  clear Qj Bj Zj Xj Kj Cj Hj H5 B4 B2 Q4 L4 bB hb5 HV
                  go_wp2_with fail
                  go_roundg (2 - (j + 1))
                  case measure => omega
                  case rel => exact ⟨j + 1, q' ++ [c], g2, by go_num, by omega, Nat.le_refl _, Q5, B5, Z5, X5, K5, C5, H6⟩
              · have hxnz : (x : Int) < (n : Int) := by omega
                have hcnz : ¬ (c : Int) < (n : Int) := by omega
                have hb5 : ¬ (x < n ∧ 2 * x + 1 + j < n) := by rw [← HCD.out]; omega
                have Z5 : Aside (szL n q' + szK n x (j + 1) + 1 ≤ szB n x + szL n q) := by
                  have h1 := @szK_skip n x j
                  have h2 := Zj.out
                  show _ ≤ _
                  omega
                have H6 : Aside (HeapAt lt g n root ↔ (∀ y ∈ q', HeapAt lt g n y) ∧ Kids lt g n x (j + 1)) := by
                  show _ ↔ _
                  rw [Hj.out, kids_skip hb5]
                clear hb5 Zj Hj
                go_wp2_with fail
                go_roundg (2 - (j + 1))
                case measure => omega
                case rel => exact ⟨j + 1, q', g', by go_num, by omega, Nat.le_refl _, Qj, Bj, Z5, Xj, Kj, Cj, H6⟩
            · have hxnz : ¬ (x : Int) < (n : Int) := by omega
              have hb5 : ¬ (x < n ∧ 2 * x + 1 + j < n) := by omega
              have Z5 : Aside (szL n q' + szK n x (j + 1) + 1 ≤ szB n x + szL n q) := by
                have h1 := @szK_skip n x j
                have h2 := Zj.out
                show _ ≤ _
                omega
              have H6 : Aside (HeapAt lt g n root ↔ (∀ y ∈ q', HeapAt lt g n y) ∧ Kids lt g n x (j + 1)) := by
                show _ ↔ _
                rw [Hj.out, kids_skip hb5]
              clear hb5 Zj Hj
              go_wp2_with fail
              go_roundg (2 - (j + 1))
              case measure => omega
              case rel => exact ⟨j + 1, q', g', by go_num, by omega, Nat.le_refl _, Qj, Bj, Z5, Xj, Kj, Cj, H6⟩
          · have hj2z : ¬ (j : Int) < 2 := by omega
            obtain rfl : j = 2 := by omega
            have Z6 : Aside (szL n q' + 1 ≤ szB n x + szL n q) := by have := Zj.out; show _ ≤ _; omega
            have H6 : Aside (HeapAt lt g n root ↔ ∀ y ∈ q', HeapAt lt g n y) := ⟨fun h => (Hj.out.1 h).1, fun h => Hj.out.2 ⟨h, kids_end⟩⟩
            have Z7 : Aside (szL n q' ≤ 4001 ∧ ∀ y ∈ q', y ≤ 10000) := ⟨by have := Z6.out; have := HG.out.2; omega, Xj.out⟩
            clear Zj Hj Kj Cj Xj
            go_wp2_with fail
            go_roundg (szL n q')
            case measure => have h1 := HG.out.1; rw [szL_cons] at h1; have := Z6.out; omega
            case rel => exact ⟨q', g', Nat.le_refl _, Qj, Bj, Z7, H6⟩
      · skip
        have Q1 : Aside (QAt W1 B gq (.slice (some ⟨gq, oq + 1, none⟩) (M - 1) (capq - 1)) (encQ q)) := (QN.out.2 hc1).keep BW.out
        clear QN
        go_upto_region 6 with fail
        rw [← hW1, ← hKB]
        clear hW1 hKB NW BW Bk HQL hx0 hcap hMz hMz1 hMzg hcz hM0 hM1 HM hc1
        generalize (Value.slice (some ⟨gq, oq + 1, none⟩) (M - 1) (capq - 1)) = v1 at Q1 ⊢
        go_loopg [7, 29] 2 (fun gm v vi wj => ∃ (j : Nat) (q' : List Nat) (g' : Nat), vi = .int .i64 j ∧ j ≤ 2 ∧ 2 - j ≤ gm ∧ Aside (QAt wj B g' v (encQ q')) ∧ Aside (Below B U wj) ∧ Aside (szL n q' + szK n x j + 1 ≤ szB n x + szL n q) ∧ Aside (∀ y ∈ q', y ≤ 10000) ∧ Aside (g' ≠ KB ∧ KB < wj.heap.size ∧ B ≤ KB) ∧ Aside (∀ j, j < 2 → wj.cell? ⟨KB, j, none⟩ = some (.int .i64 ((2 * x + 1 + j : Nat) : Int))) ∧ Aside (HeapAt lt g n root ↔ (∀ y ∈ q', HeapAt lt g n y) ∧ Kids lt g n x j))
        case atStart => exact ⟨0, q, gq, rfl, by omega, by omega, Q1, B1, by have := szK_start n x; show szL n q + szK n x 0 + 1 ≤ _; omega, HX, HKB, K1, HK0⟩
        case round =>
          clear Q1 B1 HX HKB K1 HK0
          obtain ⟨j, q', g', rfl, hj, hgj, Qj, Bj, Zj, Xj, Kj, Cj, Hj⟩ := hrel
          by_cases hj2 : j < 2
          · have hj2z : (j : Int) < 2 := by omega
            obtain ⟨c, hcdef⟩ : ∃ c, c = 2 * x + 1 + j := ⟨_, rfl⟩
            have hcell := Cj.out j hj2
            rw [← hcdef] at hcell
            have HCD : Aside (c = 2 * x + 1 + j) := hcdef
            clear hcdef
            by_cases hxn : x < n
            · by_cases hcn : c < n
              · have hxnz : (x : Int) < (n : Int) := by omega
                have hcnz : (c : Int) < (n : Int) := by omega
                obtain ⟨⟨x1, x2⟩, hx⟩ : ∃ v : It, v = g x := ⟨_, rfl⟩
                obtain ⟨⟨y1, y2⟩, hy⟩ : ∃ v : It, v = g c := ⟨_, rfl⟩
                have BWj : Aside (Below w.heap.size w wr) := BU.out.trans (Bj.out.mono (by have := hlB.out.2; omega))
                have e1 := HC.out x hxn
                have e2 := HC.out c hcn
                rw [← hx] at e1
                rw [← hy] at e2
                have q1 := cell_regrown ((BWj.out.cell (p := ⟨blk, off + x * 2, none⟩) hbl).trans e1.1)
                have q2 := cell_regrown ((BWj.out.cell (p := ⟨blk, off + x * 2 + 1, none⟩) hbl).trans e1.2)
                have q3 := cell_regrown ((BWj.out.cell (p := ⟨blk, off + c * 2, none⟩) hbl).trans e2.1)
                have q4 := cell_regrown ((BWj.out.cell (p := ⟨blk, off + c * 2 + 1, none⟩) hbl).trans e2.2)
                dsimp only at q1 q2 q3 q4
                have kk : ∀ i, wr.cell? ⟨w.heap.size, i, none⟩ = U.cell? ⟨w.heap.size, i, none⟩ := fun i => Bj.out.cell (p := ⟨w.heap.size, i, none⟩) hlB.out.2
                obtain ⟨_, k0, k1, k2, k3, k4⟩ := KU.out
                have p0 := cell_regrown ((kk 0).trans k0)
                have p1 := cell_regrown ((kk 1).trans k1)
                have p2 := cell_regrown ((kk 2).trans k2)
                have p3 := cell_regrown ((kk 3).trans k3)
                have p4 := cell_regrown ((kk 4).trans k4)
                have wX : IntKind.i64.wrap (x : Int) = (x : Int) := by rw [IntKind.wrap_i64]; omega
                have wC : IntKind.i64.wrap (c : Int) = (c : Int) := by rw [IntKind.wrap_i64]; omega
                obtain ⟨r, hr0⟩ : ∃ r, r = lt (x1, x2) (y1, y2) := ⟨_, rfl⟩
                have HV : Aside (lt (g x) (g c) = r) := by show lt _ _ = _; rw [← hx, ← hy, hr0]
                have C1 : ∀ p : Regrown, Calls Tryz.prog 47 #[.agg #[.int .i64 k, .int .i64 s, .int .u64 m0, .int .u64 m1, .int .u64 m2], .agg #[.int .i64 x1, .int .i64 x2], .agg #[.int .i64 y1, .int .i64 y2]] (grow (redrawn wr p.d) p.os) fun e w'' => e = .returned (.bool r) ∧ ∃ p : Regrown, w'' = grow (redrawn wr p.d) p.os := fun p => Calls.regrown_of (by rw [hr0]; exact LC'.out (x1, x2) (y1, y2) _)
                clear e1 e2 kk k0 k1 k2 k3 k4 hx hy hr0
                cases r with
                | true =>
                  go_upto_region 9 with fail
                  clear hcell
                  refine wp_region_quiet_below (by assumption) (by kernel_rfl) ?_
                  repeat' (quiet_step (with_reducible exact C1 _))
                  all_goals
                    refine wpQuiet_nil ?_
                    intro _ hw'
                    obtain ⟨⟨nq, osq⟩, hw''⟩ := hw'
                    subst hw''
                  have B2 : Aside (Below w.heap.size w (grow (redrawn wr nq) osq)) := Below.next BWj.out (below_regrown wr nq osq)
                  clear C1 q1 q2 q3 q4 p0 p1 p2 p3 p4 wX wC
                  go_wp2_with fail
                  (try simp only [Exit.inBlock, Exit.then]); refine bodyPost_ret (results_tmp rfl _ _ _) rfl ?_
                  refine HeapTo.mk false rfl ⟨fun h => absurd h (by decide), fun h => ?_⟩ B2.out
                  have h1 := (Hj.out.1 h).2 j (Nat.le_refl _) hj2 hxn (by rw [← HCD.out]; exact hcn)
                  rw [← HCD.out, HV.out] at h1
                  cases h1.1
                | false =>
                  go_upto_region 9 with fail
                  clear hcell
                  refine wp_region_quiet_below (by assumption) (by kernel_rfl) ?_
                  repeat' (quiet_step (with_reducible exact C1 _))
                  all_goals
                    refine wpQuiet_nil ?_
                    intro _ hw'
                    obtain ⟨⟨nq, osq⟩, hw''⟩ := hw'
                    subst hw''
                  have B2 : Aside (Below wr.heap.size wr (grow (redrawn wr nq) osq)) := below_regrown wr nq osq
                  generalize grow (redrawn wr nq) osq = w3 at B2 ⊢
                  clear C1 q1 q2 q3 q4 p0 p1 p2 p3 p4 wX wC nq osq BWj
                  obtain ⟨W4, hW4⟩ : ∃ W, W = w3.alloc (.cells #[.int .i64 (c : Int)] 3) := ⟨_, rfl⟩
                  have B4 : Aside (Below wr.heap.size wr W4) := by show Below _ _ _; rw [hW4]; exact Below.next B2.out (below_alloc _ _)
                  have N4 : W4.cell? ⟨w3.heap.size, 0, none⟩ = some (.int .i64 (c : Int)) := by rw [hW4]; exact cell_of_row _ _ 0 _ _ _ (heap_alloc_new _ _)
                  have Q4 : Aside (QAt W4 B g' u7 (encQ q')) := Qj.out.keep B4.out
                  have L4 : Aside ((encQ q').length ≤ 1000000) := by
                    show (q'.map _).length ≤ _
                    rw [List.length_map]
                    have := szL_len n q'; have := Zj.out; have := HG.out.2; omega
                  have bB : Aside (B ≤ W4.heap.size) := Nat.le_trans (Nat.le_trans Kj.out.2.2 (Nat.le_of_lt Kj.out.2.1)) B4.out.size
                  have app : ∀ (Q : Exit → Act → World → Prop) (ops : Array Oper) (rest : List Oper) (o : Oper) (act : Act) (sa xa : Operand), o.guard = none → o.op = .call { callee := .builtin .append, args := #[sa, xa], argTypes := #[29, 29] } → act.eval sa = u7 → act.eval xa = .slice (some ⟨w3.heap.size, 0, none⟩) 1 1 →
                      (∀ g2 v' w', Aside (QAt w' B g2 v' (encQ q' ++ [.int .i64 (c : Int)]) ∧ (g2 = g' ∨ g2 = W4.heap.size) ∧ W4.grownBy w' (some g')) → wpList Tryz.prog ops Q rest (act.put o.dst v') w') → wpList Tryz.prog ops Q (o :: rest) act W4 := fun Q ops rest o act sa xa hgd ho hs hx hK => by
                    obtain ⟨hi, hz0, hz1, hz2⟩ := hI.out
                    exact wpList_append_q W4 hgd sa xa _ ho 3 i0 (.int .i64 0) Tryz.underlying29 hi hz0 hz1 hz2 rfl B g' u7 (encQ q') hs Q4.out ⟨w3.heap.size, 0, none⟩ 1 (.int .i64 (c : Int)) hx N4 rfl L4.out bB.out hK
                  rw [hW4] at app
                  go_upto_region 12 with (at_builtin; refine app _ _ _ _ _ _ _ rfl rfl rfl rfl ?_; intro g2 v2 w5 H5)
                  rw [← hW4] at H5
                  clear app hW4 N4
                  have B5 : Aside (Below B U w5) := Bj.out.trans ((B4.out.mono (by have := Kj.out; omega)).trans ⟨H5.out.2.2.os, H5.out.2.2.tape, H5.out.2.2.output, H5.out.2.2.size, fun i hi => H5.out.2.2.block i (by have := bB.out; omega) (fun e => by cases e; have := Q4.out.lt.1; omega)⟩)
                  have K5 : Aside (g2 ≠ KB ∧ KB < w5.heap.size ∧ B ≤ KB) := ⟨by rcases H5.out.2.1 with h | h; exact h ▸ Kj.out.1; (have := B4.out.size; have := Kj.out.2.1; omega), Nat.lt_of_lt_of_le Kj.out.2.1 (Nat.le_trans B4.out.size H5.out.2.2.size), Kj.out.2.2⟩
                  have C5 : Aside (∀ j, j < 2 → w5.cell? ⟨KB, j, none⟩ = some (.int .i64 ((2 * x + 1 + j : Nat) : Int))) := fun i hi => by
                    rw [World.cell?_of_block (w := W4) (H5.out.2.2.block KB (by have := B4.out.size; have := Kj.out.2.1; omega) (fun e => Kj.out.1 (by cases e; rfl))), B4.out.cell (p := ⟨KB, i, none⟩) Kj.out.2.1]
                    exact Cj.out i hi
                  have Q5 : Aside (QAt w5 B g2 v2 (encQ (q' ++ [c]))) := by show QAt _ _ _ _ _; rw [encQ_snoc]; exact H5.out.1
                  have hb5 : 2 * x + 1 + j < n := by rw [← HCD.out]; exact hcn
                  have Z5 : Aside (szL n (q' ++ [c]) + szK n x (j + 1) + 1 ≤ szB n x + szL n q) := by
                    show _ ≤ _
                    have h1 := szK_go (n := n) (i := x) (k := j) hj2 hxn hb5
                    have h2 := Zj.out
                    rw [szL_append, HCD.out, szL_cons]
                    show szL n q' + (szB n (2 * x + 1 + j) + 0) + _ + 1 ≤ _
                    omega
                  have X5 : Aside (∀ y ∈ q' ++ [c], y ≤ 10000) := fun y hy => by
                    rcases List.mem_append.1 hy with h | h
                    · exact Xj.out y h
                    · rw [List.mem_singleton.1 h]; omega
                  have H6 : Aside (HeapAt lt g n root ↔ (∀ y ∈ q' ++ [c], HeapAt lt g n y) ∧ Kids lt g n x (j + 1)) := by
                    show _ ↔ _
                    rw [Hj.out, kids_go hj2 hxn hb5 (by rw [← HCD.out]; exact HV.out), ← HCD.out]
                    constructor
                    · intro ⟨h1, h2, h3⟩
                      exact ⟨fun y hy => by rcases List.mem_append.1 hy with h | h; exact h1 y h; rw [List.mem_singleton.1 h]; exact h2, h3⟩
                    · intro ⟨h1, h2⟩
                      exact ⟨fun y hy => h1 y (List.mem_append_left _ hy), h1 c (List.mem_append_right _ (List.mem_singleton.2 rfl)), h2⟩
                  clear Qj Bj Zj Xj Kj Cj Hj H5 B4 B2 Q4 L4 bB hb5 HV
                  go_wp2_with fail
                  go_roundg (2 - (j + 1))
                  case measure => omega
                  case rel => exact ⟨j + 1, q' ++ [c], g2, by go_num, by omega, Nat.le_refl _, Q5, B5, Z5, X5, K5, C5, H6⟩
              · have hxnz : (x : Int) < (n : Int) := by omega
                have hcnz : ¬ (c : Int) < (n : Int) := by omega
                have hb5 : ¬ (x < n ∧ 2 * x + 1 + j < n) := by rw [← HCD.out]; omega
                have Z5 : Aside (szL n q' + szK n x (j + 1) + 1 ≤ szB n x + szL n q) := by
                  have h1 := @szK_skip n x j
                  have h2 := Zj.out
                  show _ ≤ _
                  omega
                have H6 : Aside (HeapAt lt g n root ↔ (∀ y ∈ q', HeapAt lt g n y) ∧ Kids lt g n x (j + 1)) := by
                  show _ ↔ _
                  rw [Hj.out, kids_skip hb5]
                clear hb5 Zj Hj
                go_wp2_with fail
                go_roundg (2 - (j + 1))
                case measure => omega
                case rel => exact ⟨j + 1, q', g', by go_num, by omega, Nat.le_refl _, Qj, Bj, Z5, Xj, Kj, Cj, H6⟩
            · have hxnz : ¬ (x : Int) < (n : Int) := by omega
              have hb5 : ¬ (x < n ∧ 2 * x + 1 + j < n) := by omega
              have Z5 : Aside (szL n q' + szK n x (j + 1) + 1 ≤ szB n x + szL n q) := by
                have h1 := @szK_skip n x j
                have h2 := Zj.out
                show _ ≤ _
                omega
              have H6 : Aside (HeapAt lt g n root ↔ (∀ y ∈ q', HeapAt lt g n y) ∧ Kids lt g n x (j + 1)) := by
                show _ ↔ _
                rw [Hj.out, kids_skip hb5]
              clear hb5 Zj Hj
              go_wp2_with fail
              go_roundg (2 - (j + 1))
              case measure => omega
              case rel => exact ⟨j + 1, q', g', by go_num, by omega, Nat.le_refl _, Qj, Bj, Z5, Xj, Kj, Cj, H6⟩
          · have hj2z : ¬ (j : Int) < 2 := by omega
            obtain rfl : j = 2 := by omega
            have Z6 : Aside (szL n q' + 1 ≤ szB n x + szL n q) := by have := Zj.out; show _ ≤ _; omega
            have H6 : Aside (HeapAt lt g n root ↔ ∀ y ∈ q', HeapAt lt g n y) := ⟨fun h => (Hj.out.1 h).1, fun h => Hj.out.2 ⟨h, kids_end⟩⟩
            have Z7 : Aside (szL n q' ≤ 4001 ∧ ∀ y ∈ q', y ≤ 10000) := ⟨by have := Z6.out; have := HG.out.2; omega, Xj.out⟩
            clear Zj Hj Kj Cj Xj
            go_wp2_with fail
            go_roundg (szL n q')
            case measure => have h1 := HG.out.1; rw [szL_cons] at h1; have := Z6.out; omega
            case rel => exact ⟨q', g', Nat.le_refl _, Qj, Bj, Z7, H6⟩
end Go.Proofs.YtglgmkikegbchaaGreat
