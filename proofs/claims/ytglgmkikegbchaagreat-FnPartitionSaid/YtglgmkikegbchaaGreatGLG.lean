/- Texts of this claim, laid together: Join, zNumB, zDPartition, zInPartition, zNumOkB, zOpen. -/
import Derived.Test.YtglgmkikegbchaaGreatRows
import Derived.Test.YtglgmkikegbchaaGreatCopied
import Derived.Test.YtglgmkikegbchaaGreatOrd
import Derived.ProofKit
import Derived.OpenShut
import Derived.Deep.Slices
import Derived.Deep.SlicePairs
import Derived.Test.YtglgmkikegbchaaGreatzNum
import Derived.Test.YtglgmkikegbchaaGreatzArg
import Derived.Test.YtglgmkikegbchaaGreatzPerm
import Derived.Test.YtglgmkikegbchaaGreatzDoes
import Derived.Test.YtglgmkikegbchaaGreatSOrd
import Derived.Test.YtglgmkikegbchaaGreatMu
import Derived.Test.YtglgmkikegbchaaGreatzParted
import Derived.Test.YtglgmkikegbchaaGreatPi
import Derived.Test.YtglgmkikegbchaaGreatzLaw
import Derived.Test.YtglgmkikegbchaaGreatzMany
import Derived.Test.YtglgmkikegbchaaGreatNat
import Derived.Test.YtglgmkikegbchaaGreatzByPartition
/- The rows' frame: a law that answers true and changes nothing of old. -/
namespace Go.Proofs.YtglgmkikegbchaaGreat
open Go.ChangeShapes Go.WideShapes Go.ChangeAt Go.RowKit Go.Deep
set_option maxRecDepth 100000

theorem own : ownKnob Tryz.prog.godebug = none := by kernel_rfl
theorem kids : Kids Tryz.prog (· < Tryz.prog.types.size) := kids_rows (by kernel_rfl) (by kernel_rfl)
theorem full : ∀ t e, t < Tryz.prog.types.size → Tryz.prog.underlying t = some (.slice e) → 0 < Tryz.prog.cellsOf e := slices_full_of Tryz.prog (by kernel_rfl)

section
variable {H : Type} {enc : TypeId × Value → H}

theorem sameAt_below {W W' : World} (h : Below W.heap.size W W') : ∀ p : MemPlace, p.block < W.heap.size → W.sameAt W' p
  | .cell b _, hp => World.cell?_of_block (h.block b hp)
  | .map b, hp => h.block b hp

theorem trodAll_below {W W' : World} {sp : Nat → Bool} : ∀ {ts : List TypeId} {vs : List Value} {ds : List (DataW H)} {ps : List MemPlace}, DataW.TrodAll enc Tryz.prog W 0 sp true ts vs ds ps → (∀ p ∈ ps, W.sameAt W' p) → DataW.TrodAll enc Tryz.prog W' 0 sp true ts vs ds ps
  | [], [], [], _, h, _ => h
  | _ :: _, _ :: _, _ :: _, _, ⟨p, q, ⟨n, h1⟩, h2, e⟩, hs => ⟨p, q, ⟨n, DataW.trod_carry n _ _ _ h1 (fun x hx => hs x (by rw [e]; exact List.mem_append_left _ hx))⟩, trodAll_below h2 (fun x hx => hs x (by rw [e]; exact List.mem_append_right _ hx)), e⟩

theorem keptBut_below {W W' : World} (h : Below W.heap.size W W') (may : MemPlace → Prop) : W.keptBut W' may := ⟨h.os, h.output, fun i hi => by
  rw [h.block i hi]
  cases hb : W.heap[i]? with
  | none => rfl
  | some o => cases o <;> first | rfl | exact ⟨rfl, rfl, rfl, fun _ _ => rfl⟩ | exact Or.inr ⟨rfl, rfl⟩⟩

/-- What is asked behind a law that answers true. -/
theorem post_true {f : Func} {s : ChangeSpec} {W W' : World} {args : Array Value} {ds gs : List (DataW H)} {before : List MemPlace}
    (hW : DataW.Whole enc Tryz.prog f.params.toList s.vars false W args.toList ds gs before) (hv : s.vars = []) (hts : ∀ t ∈ f.params.toList, t < Tryz.prog.types.size) (hrt : f.resultTypes = #[4])
    (hfn : s.fn H ds = { results := [.lit (.bool true)], args := ds }) (hB : Below W.heap.size W W') :
    s.post enc Tryz.prog f false true false false W args (.bool true) W' := by
  obtain ⟨p, q, hA, hV, rfl, hz, hn⟩ := hW
  obtain ⟨nm, vs, fn⟩ := s
  obtain rfl : vs = [] := hv
  obtain ⟨rfl, rfl⟩ := trodVars_none hV
  have hlt := hA.lt
  have hA' : DataW.TrodAll enc Tryz.prog W' 0 (fun _ => true) true f.params.toList args.toList ds p := trodAll_below hA (fun x hx => sameAt_below hB x (hlt x hx))
  have hsz : f.resultTypes.size = 1 := by rw [hrt]; rfl
  have hR : ∀ (b : Nat) (sp : Nat → Bool) (hd : Bool), DataW.TrodAll enc Tryz.prog W' b sp hd f.resultTypes.toList ((Value.bool true).resultList f.resultTypes.size) [.lit (.bool true)] [] := fun b sp hd => by
    rw [hrt]
    exact trodAll_mk1 (shut_bool Tryz.underlying4 true)
  refine ⟨ds, [], p ++ [], [], p, [], ⟨p, [], hA, hV, rfl, hz, hn⟩, ?_, ?_, ?_, keptBut_below hB _, fun h => by cases h⟩
  · rw [List.append_nil, hfn]; exact hR _ _ _
  · rw [List.append_nil, hfn]; exact DataW.TrodAll.respare kids full hts hA' (fun x hx => by simpa using hlt x hx)
  · rw [List.append_nil, hfn]; rfl

/-- A list of elements, as an argument. -/
theorem open_items {W : World} {fuel : Nat} {a : Option Addr} {len cap : Nat} {x : DataW H × List MemPlace} (h : DataW.trod enc Tryz.prog W 0 (fun _ => true) true fuel 22 [.slice a len cap] = some x) :
    ∃ d : Array It, d.size = len ∧ Rd2 W a d ∧ (∀ i, i < len → -9223372036854775808 ≤ d[i]!.1 ∧ d[i]!.1 ≤ 9223372036854775807 ∧ -9223372036854775808 ≤ d[i]!.2 ∧ d[i]!.2 ≤ 9223372036854775807) ∧ len ≤ maxLen := by
  rcases open_slice_pairs Tryz.underlying22 Tryz.underlying49 (by kernel_rfl) rfl rfl (by kernel_rfl) (by kernel_rfl) h with ⟨hc, _⟩ | ⟨a', len', cap', m, n, V0, V1, D0, D1, P0, P1, hc, _, hl, hm, hmm, _, hall⟩
  · simp only [List.cons.injEq, and_true, Value.slice.injEq] at hc
    obtain ⟨rfl, rfl, rfl⟩ := hc
    exact ⟨#[], rfl, fun h => absurd h (by simp), fun i hi => absurd hi (by omega), by decide⟩
  · simp only [List.cons.injEq, and_true, Value.slice.injEq] at hc
    obtain ⟨rfl, rfl, rfl⟩ := hc
    simp only [if_true] at hmm
    subst hmm
    have hint : ∀ i, i < m → ∃ x y : Int, V0 i = .int .i64 x ∧ V1 i = .int .i64 y ∧ (Lit.int .i64 x).wf = true ∧ (Lit.int .i64 y).wf = true := fun i hi => by
      obtain ⟨x, h1, _, h3⟩ := DataW.trod_int Tryz.underlying2 (hall i hi).2.2.1
      obtain ⟨y, g1, _, g3⟩ := DataW.trod_int Tryz.underlying2 (hall i hi).2.2.2
      simp only [List.cons.injEq, and_true] at h1 g1
      exact ⟨x, y, h1, g1, h3, g3⟩
    let X : Nat → Int := fun i => if h : i < m then (hint i h).choose else 0
    let Y : Nat → Int := fun i => if h : i < m then (hint i h).choose_spec.choose else 0
    have hX : ∀ i, i < len → V0 i = .int .i64 (X i) ∧ V1 i = .int .i64 (Y i) ∧ (Lit.int .i64 (X i)).wf = true ∧ (Lit.int .i64 (Y i)).wf = true := fun i hi => by
      have hi' : i < m := by omega
      simp only [X, Y, dif_pos hi']
      exact (hint i hi').choose_spec.choose_spec
    let d : Array It := ((List.range len).map fun i => (X i, Y i)).toArray
    have hd : ∀ i, i < len → d[i]! = (X i, Y i) := fun i hi => by
      have : d[i]? = some (X i, Y i) := by simp [d, hi]
      rw [getElem!_def, this]
    refine ⟨d, by simp [d], fun h0 => ?_, fun i hi => ?_, by omega⟩
    · have h0' : 0 < len := by simpa [d] using h0
      obtain ⟨b, off, spot⟩ := a'
      have hspot : spot = none := by simpa [Addr.add] using World.cell?_spot (hall 0 (by omega)).1
      subst hspot
      refine ⟨b, off, rfl, ?_, fun i hi => ?_⟩
      · have := (hall 0 (by omega)).1
        exact World.block_lt_of_cell? _ _ this
      · have hi' : i < len := by simpa [d] using hi
        rw [hd i hi', ← (hX i hi').1, ← (hX i hi').2.1, Nat.add_assoc, ← Go.WideShapes.add_plain, ← Go.WideShapes.add_plain]
        exact ⟨(hall i (by omega)).1, (hall i (by omega)).2.1⟩
    · rw [hd i hi]
      have h1 := bounds_i64 (hX i hi).2.2.1
      have h2 := bounds_i64 (hX i hi).2.2.2
      exact ⟨h1.1, h1.2, h2.1, h2.2⟩

theorem open_i64 {w : World} {base : Nat} {t : TypeId} {v : Value} (ht : Tryz.prog.underlying t = some (.int .i64)) (h : Value.okWide Tryz.prog w .any base t v) : ∃ n, v = .int .i64 n ∧ -9223372036854775808 ≤ n ∧ n ≤ 9223372036854775807 := by
  simp only [Value.okWide, ht, Cell.okWide] at h
  cases v <;> simp_all [Cell.ok, IntKind.has, IntKind.min, IntKind.max, IntKind.signed, IntKind.bits]

theorem row_ok {w : World} {base : Nat} {t : TypeId} {v : Value} {fs : Array Field} {ts : List TypeId} (ht : Tryz.prog.underlying t = some (.struct fs)) (hts : Tryz.prog.cellTypes Tryz.prog.depth t = some ts) (hc : Tryz.prog.cellsOf t = ts.length) (h : Value.okWide Tryz.prog w .any base t v) :
    ∃ cs, v = .agg cs ∧ cs.size = ts.length ∧ ∀ (i : Nat) (v : Value) (u : TypeId), ts[i]? = some u → cs[i]? = some v → Cell.okWide Tryz.prog w .any base u v := by
  simp only [Value.okWide, ht] at h
  obtain ⟨cs, rfl, hs, ts', h1, _, h3⟩ := h
  rw [hts] at h1
  cases h1
  refine ⟨cs, rfl, hs.trans hc, fun i v u hu hv => ?_⟩
  obtain ⟨u', e, hk⟩ := h3 i v hv
  have hi : i < ts.length := (List.getElem?_eq_some_iff.1 hu).1
  rw [Nat.mod_eq_of_lt hi, hu] at e
  cases e
  exact hk

theorem cell_i64 {w : World} {base : Nat} {t : TypeId} {v : Value} (ht : Tryz.prog.underlying t = some (.int .i64)) (h : Cell.okWide Tryz.prog w .any base t v) : ∃ n, v = .int .i64 n ∧ -9223372036854775808 ≤ n ∧ n ≤ 9223372036854775807 := by
  simp only [ht, Cell.okWide] at h
  cases v <;> simp_all [Cell.ok, IntKind.has, IntKind.min, IntKind.max, IntKind.signed, IntKind.bits]
theorem cell_u64 {w : World} {base : Nat} {t : TypeId} {v : Value} (ht : Tryz.prog.underlying t = some (.int .u64)) (h : Cell.okWide Tryz.prog w .any base t v) : ∃ n, v = .int .u64 n ∧ 0 ≤ n ∧ n ≤ 18446744073709551615 := by
  simp only [ht, Cell.okWide] at h
  cases v <;> simp_all [Cell.ok, IntKind.has, IntKind.min, IntKind.max, IntKind.signed, IntKind.bits]

theorem open_order {w : World} {base : Nat} {v : Value} (h : Value.okWide Tryz.prog w .any base 26 v) : ∃ o : Ordr, v = vOrd o ∧ (-9223372036854775808 ≤ o.kind ∧ o.kind ≤ 9223372036854775807) ∧ (-9223372036854775808 ≤ o.shift ∧ o.shift ≤ 9223372036854775807) ∧ (0 ≤ o.m0 ∧ o.m0 ≤ 18446744073709551615) ∧ (0 ≤ o.m1 ∧ o.m1 ≤ 18446744073709551615) ∧ (0 ≤ o.m2 ∧ o.m2 ≤ 18446744073709551615) := by
  obtain ⟨cs, rfl, hz, hc⟩ := row_ok (ts := [3, 3, 23, 23, 23]) Tryz.underlying26 (by kernel_rfl) (by kernel_rfl) h
  obtain ⟨v0, v1, v2, v3, v4, rfl⟩ : ∃ v0 v1 v2 v3 v4, cs = #[v0, v1, v2, v3, v4] := by
    obtain ⟨l⟩ := cs
    match l, hz with
    | [v0, v1, v2, v3, v4], _ => exact ⟨v0, v1, v2, v3, v4, rfl⟩
  obtain ⟨k, rfl, hk⟩ := cell_i64 Tryz.underlying3 (hc 0 v0 _ rfl rfl)
  obtain ⟨s, rfl, hs⟩ := cell_i64 Tryz.underlying3 (hc 1 v1 _ rfl rfl)
  obtain ⟨m0, rfl, h0⟩ := cell_u64 Tryz.underlying23 (hc 2 v2 _ rfl rfl)
  obtain ⟨m1, rfl, h1⟩ := cell_u64 Tryz.underlying23 (hc 3 v3 _ rfl rfl)
  obtain ⟨m2, rfl, h2⟩ := cell_u64 Tryz.underlying23 (hc 4 v4 _ rfl rfl)
  exact ⟨⟨k, s, m0, m1, m2⟩, rfl, hk, hs, h0, h1, h2⟩

theorem open_item {w : World} {base : Nat} {v : Value} (h : Value.okWide Tryz.prog w .any base 49 v) : ∃ x : It, v = vIt x ∧ (-9223372036854775808 ≤ x.1 ∧ x.1 ≤ 9223372036854775807) ∧ (-9223372036854775808 ≤ x.2 ∧ x.2 ≤ 9223372036854775807) := by
  obtain ⟨cs, rfl, hz, hc⟩ := row_ok (ts := [2, 2]) Tryz.underlying49 (by kernel_rfl) (by kernel_rfl) h
  obtain ⟨v0, v1, rfl⟩ : ∃ v0 v1, cs = #[v0, v1] := by
    obtain ⟨l⟩ := cs
    match l, hz with
    | [v0, v1], _ => exact ⟨v0, v1, rfl⟩
  obtain ⟨k, rfl, hk⟩ := cell_i64 Tryz.underlying2 (hc 0 v0 _ rfl rfl)
  obtain ⟨s, rfl, hs⟩ := cell_i64 Tryz.underlying2 (hc 1 v1 _ rfl rfl)
  exact ⟨(k, s), rfl, hk, hs⟩
end
end Go.Proofs.YtglgmkikegbchaaGreat

/- spec.Numbers (printed by gen/numbers.py). -/
namespace Go.Proofs.YtglgmkikegbchaaGreat
open Go.RowKit Go.Sort Go.Maps

set_option maxHeartbeats 8000000 in
set_option maxRecDepth 1000000 in
theorem numbers_1 (m : Int) (a : Option Addr) (cap : Nat) (x y z : Int) (w : World) (h : RdN w a #[x, y, z]) (hx : in2k x) (hy : in2k y) (hz : in2k z) :
    Calls Tryz.prog 26 #[.int .i64 1, .int .i64 m, .slice a 3 cap] w fun e w' => e = .returned (.tuple #[.int .i64 (z), .int .i64 (z + y), .bool (decide (x < y) && decide (z + y ≤ m))]) ∧ Below w.heap.size w w' := by
  obtain ⟨x0, x1⟩ := hx
  obtain ⟨y0, y1⟩ := hy
  obtain ⟨z0, z1⟩ := hz
  obtain ⟨blk, off, rfl, hl, hc⟩ := h (by simp)
  have c0 := hc 0 (by simp)
  have c1 := hc 1 (by simp)
  have c2 := hc 2 (by simp)
  simp at c0 c1 c2
  have hzx : ¬ x < 0 := by omega
  have hyx : ¬ 2000 < x := by omega
  have hzy : ¬ y < 0 := by omega
  have hyy : ¬ 2000 < y := by omega
  have hzz : ¬ z < 0 := by omega
  have hyz : ¬ 2000 < z := by omega
  have HC : Aside (blk < w.heap.size ∧ w.cell? ⟨blk, off, none⟩ = some (.int .i64 x) ∧ w.cell? ⟨blk, off + 1, none⟩ = some (.int .i64 y) ∧ w.cell? ⟨blk, off + 2, none⟩ = some (.int .i64 z)) := ⟨hl, c0, c1, c2⟩
  clear hc h hl c0 c1 c2
  have s0 : IntKind.i64.wrap (z + y) = z + y := by rw [IntKind.wrap_i64]; omega
  clear x0 x1 y0 y1 z0 z1
  have hmm := @run_makeMap Tryz.prog
  have hst : Aside (MapSt w (w.alloc (.map #[] 0)) 0 (.map [])) := mapSt_made w
  by_cases k0 : x < y
  · have d0 : decide (x < y) = true := decide_eq_true k0
    rw [d0]
    clear k0
    simp only [Bool.true_and]
    go_enter Tryz.func26, Tryz.ntmps26
    go_wp2_with (first
      | (refine wpList_insert_st hst rfl _ _ _ rfl rfl (by decide) (by decide) (by decide) ?_; clear hst; intro w1 hst)
      | (at_lookup; refine wpList_lookup_own_int _ rfl _ _ 52 rfl 3 3 .i64 lawI Tryz.underlying52 Tryz.underlying3 (zeroI _) w.heap.size _ _ rfl hst.out.1 _ _ rfl (keyOf_int_mk Tryz.underlying3 (by decide)) ?_; intro c hat _; obtain rfl : c = 3 := want_c hat (by rfl); clear hat)
      | fail)
    obtain ⟨hl, c0, c1, c2⟩ := HC.out
    have q0 := (hst.out.2.cell (p := ⟨blk, off, none⟩) (by exact hl)).trans c0
    have q1 := (hst.out.2.cell (p := ⟨blk, off + 1, none⟩) (by exact hl)).trans c1
    have q2 := (hst.out.2.cell (p := ⟨blk, off + 2, none⟩) (by exact hl)).trans c2
    have B : Aside (Below w.heap.size w w1) := hst.out.2
    clear hst HC hl c0 c1 c2
    refine wp_loop_rounds 4 ?_
    rw [rounds_succ]
    go_wp2_with fail
    rw [rounds_succ]
    go_wp2_with fail
    rw [rounds_succ]
    go_wp2_with fail
    rw [rounds_succ]
    go_wp2_with fail
    go_quiet (fail)
    go_wp2_with fail
    refine bodyPost_ret (results_tmp3 rfl _ _ _) rfl ?_
    exact ⟨rfl, below_drewN' B.out _⟩
  · have d0 : decide (x < y) = false := decide_eq_false k0
    rw [d0]
    clear k0
    simp only [Bool.false_and]
    go_enter Tryz.func26, Tryz.ntmps26
    go_wp2_with (first
      | (refine wpList_insert_st hst rfl _ _ _ rfl rfl (by decide) (by decide) (by decide) ?_; clear hst; intro w1 hst)
      | (at_lookup; refine wpList_lookup_own_int _ rfl _ _ 52 rfl 3 3 .i64 lawI Tryz.underlying52 Tryz.underlying3 (zeroI _) w.heap.size _ _ rfl hst.out.1 _ _ rfl (keyOf_int_mk Tryz.underlying3 (by decide)) ?_; intro c hat _; obtain rfl : c = 3 := want_c hat (by rfl); clear hat)
      | fail)
    obtain ⟨hl, c0, c1, c2⟩ := HC.out
    have q0 := (hst.out.2.cell (p := ⟨blk, off, none⟩) (by exact hl)).trans c0
    have q1 := (hst.out.2.cell (p := ⟨blk, off + 1, none⟩) (by exact hl)).trans c1
    have q2 := (hst.out.2.cell (p := ⟨blk, off + 2, none⟩) (by exact hl)).trans c2
    have B : Aside (Below w.heap.size w w1) := hst.out.2
    clear hst HC hl c0 c1 c2
    refine wp_loop_rounds 4 ?_
    rw [rounds_succ]
    go_wp2_with fail
    rw [rounds_succ]
    go_wp2_with fail
    rw [rounds_succ]
    go_wp2_with fail
    rw [rounds_succ]
    go_wp2_with fail
    go_quiet (fail)
    go_wp2_with fail
    refine bodyPost_ret (results_tmp3 rfl _ _ _) rfl ?_
    exact ⟨rfl, below_drewN' B.out _⟩

set_option maxHeartbeats 8000000 in
set_option maxRecDepth 1000000 in
theorem numbers_3 (m : Int) (a : Option Addr) (cap : Nat) (x y z : Int) (w : World) (h : RdN w a #[x, y, z]) (hx : in2k x) (hy : in2k y) (hz : in2k z) :
    Calls Tryz.prog 26 #[.int .i64 3, .int .i64 m, .slice a 3 cap] w fun e w' => e = .returned (.tuple #[.int .i64 (x), .int .i64 (y), .bool ((decide (0 ≤ x) && decide (x ≤ y) && decide (y ≤ m)) && decide (z ≤ 64))]) ∧ Below w.heap.size w w' := by
  obtain ⟨x0, x1⟩ := hx
  obtain ⟨y0, y1⟩ := hy
  obtain ⟨z0, z1⟩ := hz
  obtain ⟨blk, off, rfl, hl, hc⟩ := h (by simp)
  have c0 := hc 0 (by simp)
  have c1 := hc 1 (by simp)
  have c2 := hc 2 (by simp)
  simp at c0 c1 c2
  have hzx : ¬ x < 0 := by omega
  have hyx : ¬ 2000 < x := by omega
  have hzy : ¬ y < 0 := by omega
  have hyy : ¬ 2000 < y := by omega
  have hzz : ¬ z < 0 := by omega
  have hyz : ¬ 2000 < z := by omega
  have HC : Aside (blk < w.heap.size ∧ w.cell? ⟨blk, off, none⟩ = some (.int .i64 x) ∧ w.cell? ⟨blk, off + 1, none⟩ = some (.int .i64 y) ∧ w.cell? ⟨blk, off + 2, none⟩ = some (.int .i64 z)) := ⟨hl, c0, c1, c2⟩
  clear hc h hl c0 c1 c2
  have hmm := @run_makeMap Tryz.prog
  have hst : Aside (MapSt w (w.alloc (.map #[] 0)) 0 (.map [])) := mapSt_made w
  obtain ⟨b, hb⟩ : ∃ b, b = (decide (0 ≤ x) && decide (x ≤ y) && decide (y ≤ m)) := ⟨_, rfl⟩
  have hwi := within_calls x y m
  rw [← hb] at hwi ⊢
  clear hb x0 x1 y0 y1 z0 z1
  cases b with
  | false =>
    simp only [Bool.false_and]
    go_enter Tryz.func26, Tryz.ntmps26
    go_wp2_with (first
      | (refine wpList_insert_st hst rfl _ _ _ rfl rfl (by decide) (by decide) (by decide) ?_; clear hst; intro w1 hst)
      | (at_lookup; refine wpList_lookup_own_int _ rfl _ _ 52 rfl 3 3 .i64 lawI Tryz.underlying52 Tryz.underlying3 (zeroI _) w.heap.size _ _ rfl hst.out.1 _ _ rfl (keyOf_int_mk Tryz.underlying3 (by decide)) ?_; intro c hat _; obtain rfl : c = 3 := want_c hat (by rfl); clear hat)
      | fail)
    obtain ⟨hl, c0, c1, c2⟩ := HC.out
    have q0 := (hst.out.2.cell (p := ⟨blk, off, none⟩) (by exact hl)).trans c0
    have q1 := (hst.out.2.cell (p := ⟨blk, off + 1, none⟩) (by exact hl)).trans c1
    have q2 := (hst.out.2.cell (p := ⟨blk, off + 2, none⟩) (by exact hl)).trans c2
    have B : Aside (Below w.heap.size w w1) := hst.out.2
    clear hst HC hl c0 c1 c2
    refine wp_loop_rounds 4 ?_
    rw [rounds_succ]
    go_wp2_with fail
    rw [rounds_succ]
    go_wp2_with fail
    rw [rounds_succ]
    go_wp2_with fail
    rw [rounds_succ]
    go_wp2_with fail
    go_quiet (first | (go_at_call 37; refine Calls.quiet_of_same (hwi _)))
    go_wp2_with fail
    refine bodyPost_ret (results_tmp3 rfl _ _ _) rfl ?_
    exact ⟨rfl, below_drewN' B.out _⟩
  | true =>
    simp only [Bool.true_and]
    go_enter Tryz.func26, Tryz.ntmps26
    go_wp2_with (first
      | (refine wpList_insert_st hst rfl _ _ _ rfl rfl (by decide) (by decide) (by decide) ?_; clear hst; intro w1 hst)
      | (at_lookup; refine wpList_lookup_own_int _ rfl _ _ 52 rfl 3 3 .i64 lawI Tryz.underlying52 Tryz.underlying3 (zeroI _) w.heap.size _ _ rfl hst.out.1 _ _ rfl (keyOf_int_mk Tryz.underlying3 (by decide)) ?_; intro c hat _; obtain rfl : c = 3 := want_c hat (by rfl); clear hat)
      | fail)
    obtain ⟨hl, c0, c1, c2⟩ := HC.out
    have q0 := (hst.out.2.cell (p := ⟨blk, off, none⟩) (by exact hl)).trans c0
    have q1 := (hst.out.2.cell (p := ⟨blk, off + 1, none⟩) (by exact hl)).trans c1
    have q2 := (hst.out.2.cell (p := ⟨blk, off + 2, none⟩) (by exact hl)).trans c2
    have B : Aside (Below w.heap.size w w1) := hst.out.2
    clear hst HC hl c0 c1 c2
    refine wp_loop_rounds 4 ?_
    rw [rounds_succ]
    go_wp2_with fail
    rw [rounds_succ]
    go_wp2_with fail
    rw [rounds_succ]
    go_wp2_with fail
    rw [rounds_succ]
    go_wp2_with fail
    go_quiet (first | (go_at_call 37; refine Calls.quiet_of_same (hwi _)))
    go_wp2_with fail
    refine bodyPost_ret (results_tmp3 rfl _ _ _) rfl ?_
    exact ⟨rfl, below_drewN' B.out _⟩

set_option maxHeartbeats 8000000 in
set_option maxRecDepth 1000000 in
theorem numbers_4 (m : Int) (a : Option Addr) (cap : Nat) (x y z : Int) (w : World) (h : RdN w a #[x, y, z]) (hx : in2k x) (hy : in2k y) (hz : in2k z) :
    Calls Tryz.prog 26 #[.int .i64 4, .int .i64 m, .slice a 3 cap] w fun e w' => e = .returned (.tuple #[.int .i64 (x), .int .i64 (y), .bool ((decide (0 ≤ x) && decide (x ≤ y) && decide (y ≤ m)) && decide (x ≤ z) && decide (z < y))]) ∧ Below w.heap.size w w' := by
  obtain ⟨x0, x1⟩ := hx
  obtain ⟨y0, y1⟩ := hy
  obtain ⟨z0, z1⟩ := hz
  obtain ⟨blk, off, rfl, hl, hc⟩ := h (by simp)
  have c0 := hc 0 (by simp)
  have c1 := hc 1 (by simp)
  have c2 := hc 2 (by simp)
  simp at c0 c1 c2
  have hzx : ¬ x < 0 := by omega
  have hyx : ¬ 2000 < x := by omega
  have hzy : ¬ y < 0 := by omega
  have hyy : ¬ 2000 < y := by omega
  have hzz : ¬ z < 0 := by omega
  have hyz : ¬ 2000 < z := by omega
  have HC : Aside (blk < w.heap.size ∧ w.cell? ⟨blk, off, none⟩ = some (.int .i64 x) ∧ w.cell? ⟨blk, off + 1, none⟩ = some (.int .i64 y) ∧ w.cell? ⟨blk, off + 2, none⟩ = some (.int .i64 z)) := ⟨hl, c0, c1, c2⟩
  clear hc h hl c0 c1 c2
  have hmm := @run_makeMap Tryz.prog
  have hst : Aside (MapSt w (w.alloc (.map #[] 0)) 0 (.map [])) := mapSt_made w
  obtain ⟨b, hb⟩ : ∃ b, b = (decide (0 ≤ x) && decide (x ≤ y) && decide (y ≤ m)) := ⟨_, rfl⟩
  have hwi := within_calls x y m
  rw [← hb] at hwi ⊢
  clear hb x0 x1 y0 y1 z0 z1
  cases b with
  | false =>
    simp only [Bool.false_and]
    go_enter Tryz.func26, Tryz.ntmps26
    go_wp2_with (first
      | (refine wpList_insert_st hst rfl _ _ _ rfl rfl (by decide) (by decide) (by decide) ?_; clear hst; intro w1 hst)
      | (at_lookup; refine wpList_lookup_own_int _ rfl _ _ 52 rfl 3 3 .i64 lawI Tryz.underlying52 Tryz.underlying3 (zeroI _) w.heap.size _ _ rfl hst.out.1 _ _ rfl (keyOf_int_mk Tryz.underlying3 (by decide)) ?_; intro c hat _; obtain rfl : c = 3 := want_c hat (by rfl); clear hat)
      | fail)
    obtain ⟨hl, c0, c1, c2⟩ := HC.out
    have q0 := (hst.out.2.cell (p := ⟨blk, off, none⟩) (by exact hl)).trans c0
    have q1 := (hst.out.2.cell (p := ⟨blk, off + 1, none⟩) (by exact hl)).trans c1
    have q2 := (hst.out.2.cell (p := ⟨blk, off + 2, none⟩) (by exact hl)).trans c2
    have B : Aside (Below w.heap.size w w1) := hst.out.2
    clear hst HC hl c0 c1 c2
    refine wp_loop_rounds 4 ?_
    rw [rounds_succ]
    go_wp2_with fail
    rw [rounds_succ]
    go_wp2_with fail
    rw [rounds_succ]
    go_wp2_with fail
    rw [rounds_succ]
    go_wp2_with fail
    go_quiet (first | (go_at_call 37; refine Calls.quiet_of_same (hwi _)))
    go_wp2_with fail
    refine bodyPost_ret (results_tmp3 rfl _ _ _) rfl ?_
    exact ⟨rfl, below_drewN' B.out _⟩
  | true =>
    simp only [Bool.true_and]
    by_cases k1 : x ≤ z
    · have d1 : decide (x ≤ z) = true := decide_eq_true k1
      rw [d1]
      clear k1
      simp only [Bool.true_and]
      go_enter Tryz.func26, Tryz.ntmps26
      go_wp2_with (first
        | (refine wpList_insert_st hst rfl _ _ _ rfl rfl (by decide) (by decide) (by decide) ?_; clear hst; intro w1 hst)
        | (at_lookup; refine wpList_lookup_own_int _ rfl _ _ 52 rfl 3 3 .i64 lawI Tryz.underlying52 Tryz.underlying3 (zeroI _) w.heap.size _ _ rfl hst.out.1 _ _ rfl (keyOf_int_mk Tryz.underlying3 (by decide)) ?_; intro c hat _; obtain rfl : c = 3 := want_c hat (by rfl); clear hat)
        | fail)
      obtain ⟨hl, c0, c1, c2⟩ := HC.out
      have q0 := (hst.out.2.cell (p := ⟨blk, off, none⟩) (by exact hl)).trans c0
      have q1 := (hst.out.2.cell (p := ⟨blk, off + 1, none⟩) (by exact hl)).trans c1
      have q2 := (hst.out.2.cell (p := ⟨blk, off + 2, none⟩) (by exact hl)).trans c2
      have B : Aside (Below w.heap.size w w1) := hst.out.2
      clear hst HC hl c0 c1 c2
      refine wp_loop_rounds 4 ?_
      rw [rounds_succ]
      go_wp2_with fail
      rw [rounds_succ]
      go_wp2_with fail
      rw [rounds_succ]
      go_wp2_with fail
      rw [rounds_succ]
      go_wp2_with fail
      go_quiet (first | (go_at_call 37; refine Calls.quiet_of_same (hwi _)))
      go_wp2_with fail
      refine bodyPost_ret (results_tmp3 rfl _ _ _) rfl ?_
      exact ⟨rfl, below_drewN' B.out _⟩
    · have d1 : decide (x ≤ z) = false := decide_eq_false k1
      rw [d1]
      clear k1
      simp only [Bool.false_and]
      go_enter Tryz.func26, Tryz.ntmps26
      go_wp2_with (first
        | (refine wpList_insert_st hst rfl _ _ _ rfl rfl (by decide) (by decide) (by decide) ?_; clear hst; intro w1 hst)
        | (at_lookup; refine wpList_lookup_own_int _ rfl _ _ 52 rfl 3 3 .i64 lawI Tryz.underlying52 Tryz.underlying3 (zeroI _) w.heap.size _ _ rfl hst.out.1 _ _ rfl (keyOf_int_mk Tryz.underlying3 (by decide)) ?_; intro c hat _; obtain rfl : c = 3 := want_c hat (by rfl); clear hat)
        | fail)
      obtain ⟨hl, c0, c1, c2⟩ := HC.out
      have q0 := (hst.out.2.cell (p := ⟨blk, off, none⟩) (by exact hl)).trans c0
      have q1 := (hst.out.2.cell (p := ⟨blk, off + 1, none⟩) (by exact hl)).trans c1
      have q2 := (hst.out.2.cell (p := ⟨blk, off + 2, none⟩) (by exact hl)).trans c2
      have B : Aside (Below w.heap.size w w1) := hst.out.2
      clear hst HC hl c0 c1 c2
      refine wp_loop_rounds 4 ?_
      rw [rounds_succ]
      go_wp2_with fail
      rw [rounds_succ]
      go_wp2_with fail
      rw [rounds_succ]
      go_wp2_with fail
      rw [rounds_succ]
      go_wp2_with fail
      go_quiet (first | (go_at_call 37; refine Calls.quiet_of_same (hwi _)))
      go_wp2_with fail
      refine bodyPost_ret (results_tmp3 rfl _ _ _) rfl ?_
      exact ⟨rfl, below_drewN' B.out _⟩
end Go.Proofs.YtglgmkikegbchaaGreat

/- spec.Done of partition (its frame printed by gen/done.py). -/
namespace Go.Proofs.YtglgmkikegbchaaGreat
open Go.RowKit Go.Sort Go.Maps



set_option maxHeartbeats 8000000 in
set_option maxRecDepth 1000000 in
theorem done_partition (a na ra : Option Addr) (cap n ncap b cap' rcap : Nat) (d : Array It) (o : Ordr) (x y z : Nat) (w : World) (h : Arg w a cap d) (hn : d.size = n) (hsz : n ≤ 2000) (hs0 : 0 ≤ o.shift) (hs1 : o.shift < 64) (hk3 : o.kind ≠ 3) (hr : inR d) (hN : RdN w na #[(x : Int), (y : Int), (z : Int)])
    (hb : b < w.heap.size) (hH : Holds2 w b 0 ((partition (ltC (cfO o)) d x y z).2.2)) (hc' : n ≤ cap') (hR : RdN w ra #[((partition (ltC (cfO o)) d x y z).1 : Int), flagN (partition (ltC (cfO o)) d x y z).2.1]) (h1 : x ≤ y) (h2 : y ≤ n) (h3 : x ≤ z) (h4 : z < y) :
    Calls Tryz.prog 35 #[.int .i64 4, .slice a n cap, vOrd o, .slice na 3 ncap, .slice (some ⟨b, 0, none⟩) n cap', .slice ra 2 rcap] w fun e w' => e = .returned (.bool true) ∧ Below w.heap.size w w' := by
  obtain ⟨d', hd'⟩ : ∃ d', d' = ((partition (ltC (cfO o)) d x y z).2.2) := ⟨_, rfl⟩
  rw [← hd'] at hH
  have hp : PermIn (x) (y) d d' := by rw [hd']; exact perm_partition (ltC (cfO o)) d x y z (by omega) (by omega) (by omega) (by omega)
  have hn' : d'.size = n := hp.1.trans hn
  have hpe := partition_holds (ltC (cfO o)) (by rw [ltC_by o hk3]; exact swo_ltBy _) d x y z h3 h4 (by omega)
  have hat := partition_at (ltC (cfO o)) d x y z h3 h4 (by omega)
  have hfl := partition_flag (ltC (cfO o)) d x y z h3 h4
  rw [← hd'] at hpe hat
  have HPE : Aside (∃ P F, P = (partition (ltC (cfO o)) d x y z).1 ∧ F = (partition (ltC (cfO o)) d x y z).2.1 ∧ x ≤ P ∧ P < y ∧ d'[P]! = d[z]! ∧ (∀ i, x ≤ i → i < P → ltC (cfO o) d'[i]! d'[P]! = true) ∧ (∀ i, P < i → i < y → ltC (cfO o) d'[i]! d'[P]! = false) ∧ (F = true ↔ ∀ i, x < i → i < y → decide (i ≤ P) = ltC (cfO o) (swp d x z)[i]! (swp d x z)[x]!)) :=
    ⟨_, _, rfl, rfl, hpe.1, hpe.2.1, hat, hpe.2.2.2.1, hpe.2.2.2.2, hfl⟩
  clear hpe hat hfl
  clear hd'
  obtain ⟨k, s, m0, m1, m2⟩ := o
  have B0 : Aside (Below w.heap.size w (w.alloc (.cells #[.int .i64 k, .int .i64 s, .int .u64 m0, .int .u64 m1, .int .u64 m2] 26))) := below_alloc _ _
  have K0 : Aside (BoxK (w.alloc (.cells #[.int .i64 k, .int .i64 s, .int .u64 m0, .int .u64 m1, .int .u64 m2] 26)) w.heap.size k s m0 m1 m2) := boxK_new _ _ _ _ _ _ _
  have R' : Rd2 w (some ⟨b, 0, none⟩) d' := fun _ => ⟨b, 0, rfl, hb, fun i hi => ⟨(hH i hi).1, (hH i hi).2.1⟩⟩
  have hNum : ∀ W, Below w.heap.size w W → Calls Tryz.prog 26 #[.int .i64 4, .int .i64 n, .slice na 3 ncap] W fun e w' => e = .returned (.tuple #[.int .i64 ((x : Int)), .int .i64 ((y : Int)), .bool true]) ∧ Below W.heap.size W w' := fun W hW => by
    have := numbers_4 (n : Int) na ncap x y z W (hN.keep hW) ⟨by omega, by omega⟩ ⟨by omega, by omega⟩ ⟨by omega, by omega⟩
    rwa [show ((decide ((0 : Int) ≤ (x : Int)) && decide ((x : Int) ≤ (y : Int)) && decide ((y : Int) ≤ (n : Int))) && decide ((x : Int) ≤ (z : Int)) && decide ((z : Int) < (y : Int))) = true by simp only [Bool.and_eq_true, decide_eq_true_eq]; omega] at this
  have hKept := fun W (hW : Below w.heap.size w W) => kept_calls a cap cap' n (x) (y) b d d' W (h.keep hW) (R'.keep hW) hn hc' hsz hr (by omega) (by omega) hp
  push_cast at hKept
  go_enter Tryz.func35, Tryz.ntmps35
  go_wp2_with fail
  refine (hNum _ B0.out).mono ?_
  rintro e w1 ⟨rfl, hb1⟩
  have B1 : Aside (Below w.heap.size w w1) := Below.next B0.out hb1
  have K1 : Aside (BoxK w1 w.heap.size k s m0 m1 m2) := K0.out.keep hb1
  clear hb1 B0 K0
  go_wp2_with fail
  refine (hKept _ B1.out).mono ?_
  rintro e w2 ⟨rfl, hb1⟩
  have B2 : Aside (Below w.heap.size w w2) := Below.next B1.out hb1
  have K2 : Aside (BoxK w2 w.heap.size k s m0 m1 m2) := K1.out.keep hb1
  clear hb1 B1 K1 hKept hNum
  obtain ⟨nb, noff, rfl, hnb, hnc⟩ := hN (by simp)
  have n0 := (B2.out.cell (p := ⟨nb, noff + 0, none⟩) hnb).trans (hnc 0 (by simp))
  have n1 := (B2.out.cell (p := ⟨nb, noff + 1, none⟩) hnb).trans (hnc 1 (by simp))
  have n2 := (B2.out.cell (p := ⟨nb, noff + 2, none⟩) hnb).trans (hnc 2 (by simp))
  simp at n0 n1 n2
  have HN2 : RdN w2 (some ⟨nb, noff, none⟩) #[(x : Int), (y : Int), (z : Int)] := fun _ => ⟨nb, noff, rfl, Nat.lt_of_lt_of_le hnb B2.out.size, fun i hi => (B2.out.cell (p := ⟨nb, noff + i, none⟩) hnb).trans (hnc i hi)⟩
  have RA : Aside (Rd2 w2 a d) := h.rd.keep B2.out
  have RB : Aside (Rd2 w2 (some ⟨b, 0, none⟩) d') := R'.keep B2.out
  have HZ : Aside (a = none → d.size = 0 ∧ cap = 0) := h.nil
  have HR : Aside (RdN w2 ra #[((partition (ltC (cfO (⟨k, s, m0, m1, m2⟩ : Ordr))) d x y z).1 : Int), flagN (partition (ltC (cfO (⟨k, s, m0, m1, m2⟩ : Ordr))) d x y z).2.1]) := hR.keep B2.out
  have HC : Aside (d.size = n ∧ d'.size = n ∧ d.size ≤ cap ∧ n ≤ cap' ∧ inR d ∧ PermIn (x) (y) d d') := ⟨hn, hn', h.le, hc', hr, hp⟩
  clear h hr hH hp R' hN hnc hnb hc' hn hn' hR hb
  have HO : Aside (0 ≤ s ∧ s < 64) := ⟨hs0, hs1⟩
  obtain ⟨P, F, hP, hF, g1, g2, g3, g4, g5, g6⟩ := HPE.out
  have hr := HR.out
  rw [← hP, ← hF] at hr
  obtain ⟨hn, hn', hca, hcb, -, -⟩ := HC.out
  obtain ⟨blk, off, rfl, _, _⟩ := RA.out (by omega)
  obtain ⟨_, k0, k1, k2, k3, k4⟩ := K2.out
  have C1 : Aside (Calls Tryz.prog 53 #[.slice (some ⟨blk, off, none⟩) n cap, .slice (some ⟨b, 0, none⟩) n cap', .agg #[.int .i64 k, .int .i64 s, .int .u64 m0, .int .u64 m1, .int .u64 m2], .slice (some ⟨nb, noff, none⟩) 3 ncap, .slice ra 2 rcap] w2 fun e w' => e = .returned (.bool true) ∧ Below w2.heap.size w2 w') :=
    parted_calls blk off b _ ra cap cap' n ncap rcap d d' ⟨k, s, m0, m1, m2⟩ x y z P F w2 RA.out RB.out hn hn' hsz HO.out.1 HO.out.2 HN2 hr h3 h4 (by omega) g1 g2 g3 g4 g5 g6
  clear n0 n1 n2 RA RB HC HR HPE HZ hn hn' K2 HO HN2 hP hF g3 g4 g5 g6 hr
  go_wp2_with fail
  refine Calls.mono C1.out ?_
  rintro e w3 ⟨rfl, hb⟩
  have B3 : Aside _ := Below.next B2.out hb
  clear C1 k0 k1 k2 k3 k4 hb
  go_wp2_with fail
  go_ret
  exact ⟨rfl, B3.out⟩
end Go.Proofs.YtglgmkikegbchaaGreat

/- Inner of partition, whatever the text (printed by gen/law.py). -/
namespace Go.Proofs.YtglgmkikegbchaaGreat
open Go.RowKit Go.Sort

theorem inner_partition (t : Int) (a : Option Addr) (cap : Nat) (d : Array It) (o : Ordr) (na : Option Addr) (ncap : Nat) (X Y Z : Nat) (h1 : X ≤ Y) (h2 : Y ≤ d.size) (h3 : X ≤ Z) (h4 : Z < Y) (w : World) (h : Rd2 w a d) (hN : RdN w na #[(X : Int), (Y : Int), (Z : Int)]) (hsz : d.size ≤ 2000) (hs0 : 0 ≤ o.shift) (hs1 : o.shift < 64) (ht : textB t d o = true) :
    Calls Tryz.prog 28 #[.int .i64 t, .int .i64 4, .slice a d.size cap, vOrd o, .slice na 3 ncap] w (InnerTo w ((partition (ltC (cfO o)) d X Y Z).2.2) #[((partition (ltC (cfO o)) d X Y Z).1 : Int), flagN (partition (ltC (cfO o)) d X Y Z).2.1]) := by
  have HO := cmpC_of o hs0 hs1
  refine inner_any t 4 a cap d _ o na 3 ncap _ _ w h hN hsz (size_partition (ltC (cfO o)) d X Y Z h1 h2 h3 h4) ht many_4 (fun W b c hb hH hN => by_partition_c o HO b c d.size ncap na d X Y Z rfl (by omega) h1 h2 h3 h4 W hb hH hN) (fun W b c hb hH hN => by_partition_f o HO b c d.size ncap na d X Y Z rfl (by omega) h1 h2 h3 h4 W hb hH hN) (fun ek ks eb => ?_)
  subst eb
  rw [bare_size] at hsz h2
  have hl := ltC_bare o ek
  have en := nat_partition (fun k => ((k, 0) : It)) rfl (ltC (cfO o)) ltInt hl ks X Y Z
  unfold bare
  rw [en]
  exact ⟨(partition ltInt ks X Y Z).2.2, rfl, fun W b c hb hH hN => by_partition_o b c ks.size ncap na ks X Y Z rfl (by omega) h1 h2 h3 h4 W hb hH hN⟩
end Go.Proofs.YtglgmkikegbchaaGreat

/- spec.Numbers of each function, whatever its numbers (printed by gen/numok.py). -/
namespace Go.Proofs.YtglgmkikegbchaaGreat
open Go.RowKit Go.Sort

theorem numok_1 (m : Nat) (x y z : Int) : ∃ OK : Bool, (OK = true → ∃ X Y Z : Nat, x = X ∧ y = Y ∧ z = Z ∧ X ≤ 2000 ∧ Y ≤ 2000 ∧ Z ≤ 2000 ∧ (X < Y ∧ Z + Y ≤ m)) ∧
    ∀ (na : Option Addr) (ncap : Nat) (W : World), RdN W na #[x, y, z] → Calls Tryz.prog 26 #[.int .i64 1, .int .i64 m, .slice na 3 ncap] W fun e w' => ∃ u v, e = .returned (.tuple #[u, v, .bool OK]) ∧ (OK = true → ∀ X Y Z : Nat, x = X → y = Y → z = Z → u = .int .i64 ((Z : Nat) : Int) ∧ v = .int .i64 ((Z + Y : Nat) : Int)) ∧ Below W.heap.size W w' := by
  by_cases h : in2k x ∧ in2k y ∧ in2k z
  · refine ⟨_, ?_, fun na ncap W hN => (numbers_1 m na ncap x y z W hN h.1 h.2.1 h.2.2).mono fun e w' ⟨h1, h2⟩ => ⟨_, _, h1, ?_, h2⟩⟩
    · intro e
      simp only [Bool.and_eq_true, decide_eq_true_eq] at e
      obtain ⟨⟨x0, x1⟩, ⟨y0, y1⟩, ⟨z0, z1⟩⟩ := h
      obtain ⟨X, rfl⟩ := Int.eq_ofNat_of_zero_le x0
      obtain ⟨Y, rfl⟩ := Int.eq_ofNat_of_zero_le y0
      obtain ⟨Z, rfl⟩ := Int.eq_ofNat_of_zero_le z0
      exact ⟨X, Y, Z, rfl, rfl, rfl, by omega, by omega, by omega, by omega⟩
    · intro _ X Y Z ex ey ez
      subst ex ey ez
      exact ⟨by congr 1; try omega, by congr 1; try omega⟩
  · refine ⟨false, fun e => (by cases e), fun na ncap W hN => (numbers_bad 1 m na ncap 3 #[x, y, z] W hN rfl (by decide) (by decide) (Or.inr (Or.inr (Or.inr ?_)))).mono fun e w' ⟨h1, h2⟩ => ⟨_, _, h1, fun e => (by cases e), h2⟩⟩
    by_cases hx : in2k x
    · by_cases hy : in2k y
      · exact ⟨2, by omega, fun hz => h ⟨hx, hy, hz⟩⟩
      · exact ⟨1, by omega, hy⟩
    · exact ⟨0, by omega, hx⟩

theorem numok_3 (m : Nat) (x y z : Int) : ∃ OK : Bool, (OK = true → ∃ X Y Z : Nat, x = X ∧ y = Y ∧ z = Z ∧ X ≤ 2000 ∧ Y ≤ 2000 ∧ Z ≤ 2000 ∧ (X ≤ Y ∧ Y ≤ m ∧ Z ≤ 64)) ∧
    ∀ (na : Option Addr) (ncap : Nat) (W : World), RdN W na #[x, y, z] → Calls Tryz.prog 26 #[.int .i64 3, .int .i64 m, .slice na 3 ncap] W fun e w' => ∃ u v, e = .returned (.tuple #[u, v, .bool OK]) ∧ (OK = true → ∀ X Y Z : Nat, x = X → y = Y → z = Z → u = .int .i64 ((X : Nat) : Int) ∧ v = .int .i64 ((Y : Nat) : Int)) ∧ Below W.heap.size W w' := by
  by_cases h : in2k x ∧ in2k y ∧ in2k z
  · refine ⟨_, ?_, fun na ncap W hN => (numbers_3 m na ncap x y z W hN h.1 h.2.1 h.2.2).mono fun e w' ⟨h1, h2⟩ => ⟨_, _, h1, ?_, h2⟩⟩
    · intro e
      simp only [Bool.and_eq_true, decide_eq_true_eq] at e
      obtain ⟨⟨x0, x1⟩, ⟨y0, y1⟩, ⟨z0, z1⟩⟩ := h
      obtain ⟨X, rfl⟩ := Int.eq_ofNat_of_zero_le x0
      obtain ⟨Y, rfl⟩ := Int.eq_ofNat_of_zero_le y0
      obtain ⟨Z, rfl⟩ := Int.eq_ofNat_of_zero_le z0
      exact ⟨X, Y, Z, rfl, rfl, rfl, by omega, by omega, by omega, by omega⟩
    · intro _ X Y Z ex ey ez
      subst ex ey ez
      exact ⟨by congr 1; try omega, by congr 1; try omega⟩
  · refine ⟨false, fun e => (by cases e), fun na ncap W hN => (numbers_bad 3 m na ncap 3 #[x, y, z] W hN rfl (by decide) (by decide) (Or.inr (Or.inr (Or.inr ?_)))).mono fun e w' ⟨h1, h2⟩ => ⟨_, _, h1, fun e => (by cases e), h2⟩⟩
    by_cases hx : in2k x
    · by_cases hy : in2k y
      · exact ⟨2, by omega, fun hz => h ⟨hx, hy, hz⟩⟩
      · exact ⟨1, by omega, hy⟩
    · exact ⟨0, by omega, hx⟩

theorem numok_4 (m : Nat) (x y z : Int) : ∃ OK : Bool, (OK = true → ∃ X Y Z : Nat, x = X ∧ y = Y ∧ z = Z ∧ X ≤ 2000 ∧ Y ≤ 2000 ∧ Z ≤ 2000 ∧ (X ≤ Y ∧ Y ≤ m ∧ X ≤ Z ∧ Z < Y)) ∧
    ∀ (na : Option Addr) (ncap : Nat) (W : World), RdN W na #[x, y, z] → Calls Tryz.prog 26 #[.int .i64 4, .int .i64 m, .slice na 3 ncap] W fun e w' => ∃ u v, e = .returned (.tuple #[u, v, .bool OK]) ∧ (OK = true → ∀ X Y Z : Nat, x = X → y = Y → z = Z → u = .int .i64 ((X : Nat) : Int) ∧ v = .int .i64 ((Y : Nat) : Int)) ∧ Below W.heap.size W w' := by
  by_cases h : in2k x ∧ in2k y ∧ in2k z
  · refine ⟨_, ?_, fun na ncap W hN => (numbers_4 m na ncap x y z W hN h.1 h.2.1 h.2.2).mono fun e w' ⟨h1, h2⟩ => ⟨_, _, h1, ?_, h2⟩⟩
    · intro e
      simp only [Bool.and_eq_true, decide_eq_true_eq] at e
      obtain ⟨⟨x0, x1⟩, ⟨y0, y1⟩, ⟨z0, z1⟩⟩ := h
      obtain ⟨X, rfl⟩ := Int.eq_ofNat_of_zero_le x0
      obtain ⟨Y, rfl⟩ := Int.eq_ofNat_of_zero_le y0
      obtain ⟨Z, rfl⟩ := Int.eq_ofNat_of_zero_le z0
      exact ⟨X, Y, Z, rfl, rfl, rfl, by omega, by omega, by omega, by omega⟩
    · intro _ X Y Z ex ey ez
      subst ex ey ez
      exact ⟨by congr 1; try omega, by congr 1; try omega⟩
  · refine ⟨false, fun e => (by cases e), fun na ncap W hN => (numbers_bad 4 m na ncap 3 #[x, y, z] W hN rfl (by decide) (by decide) (Or.inr (Or.inr (Or.inr ?_)))).mono fun e w' ⟨h1, h2⟩ => ⟨_, _, h1, fun e => (by cases e), h2⟩⟩
    by_cases hx : in2k x
    · by_cases hy : in2k y
      · exact ⟨2, by omega, fun hz => h ⟨hx, hy, hz⟩⟩
      · exact ⟨1, by omega, hy⟩
    · exact ⟨0, by omega, hx⟩

end Go.Proofs.YtglgmkikegbchaaGreat

/- A list of elements that came in. -/
namespace Go.Proofs.YtglgmkikegbchaaGreat
open Go.ChangeShapes Go.WideShapes Go.ChangeAt Go.RowKit Go.Deep Go.Sort

theorem open_arg {H : Type} {enc : TypeId × Value → H} {W : World} {fuel : Nat} {a : Option Addr} {len cap : Nat} {x : DataW H × List MemPlace} (h : DataW.trod enc Tryz.prog W 0 (fun _ => true) true fuel 22 [.slice a len cap] = some x) :
    ∃ d : Array It, len = d.size ∧ Arg W a cap d ∧ inR d := by
  obtain ⟨d, hd, hr, hb, _⟩ := open_items h
  have hc : d.size ≤ cap ∧ (a = none → d.size = 0 ∧ cap = 0) := by
    rcases open_slice_pairs Tryz.underlying22 Tryz.underlying49 (by kernel_rfl) rfl rfl (by kernel_rfl) (by kernel_rfl) h with ⟨hc, _⟩ | ⟨a', len', cap', m, n, V0, V1, D0, D1, P0, P1, hc, _, hl, hm, hmm, _, hall⟩
    · simp only [List.cons.injEq, and_true, Value.slice.injEq] at hc
      obtain ⟨rfl, rfl, rfl⟩ := hc
      exact ⟨by omega, fun _ => ⟨hd, rfl⟩⟩
    · simp only [List.cons.injEq, and_true, Value.slice.injEq] at hc
      obtain ⟨rfl, rfl, rfl⟩ := hc
      exact ⟨by omega, fun h => by cases h⟩
  exact ⟨d, hd.symm, ⟨hr, hc.1, hc.2⟩, fun i hi => by
    obtain ⟨h1, h2, h3, h4⟩ := hb i (by omega)
    exact ⟨WalkArith.wf_i64 ⟨h1, h2⟩, WalkArith.wf_i64 ⟨h3, h4⟩⟩⟩
end Go.Proofs.YtglgmkikegbchaaGreat
