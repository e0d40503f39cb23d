/- The rows' frame: a law that answers true and changes nothing of old. -/
import Derived.Test.YtglgmkikegbchaaRows
import Derived.Test.YtglgmkikegbchaaCopied
import Derived.Test.YtglgmkikegbchaaOrd
import Derived.ProofKit
import Derived.OpenShut
import Derived.Deep.Slices
import Derived.Deep.SlicePairs
namespace Go.Proofs.Ytglgmkikegbchaa
open Go.ChangeShapes Go.WideShapes Go.ChangeAt Go.RowKit Go.Deep
set_option maxRecDepth 100000

theorem own : ownKnob Try.prog.godebug = none := by kernel_rfl
theorem kids : Kids Try.prog (· < Try.prog.types.size) := kids_rows (by kernel_rfl) (by kernel_rfl)
theorem full : ∀ t e, t < Try.prog.types.size → Try.prog.underlying t = some (.slice e) → 0 < Try.prog.cellsOf e := slices_full_of Try.prog (by kernel_rfl)

section
variable {H : Type} {enc : TypeId × Value → H}

theorem sameAt_below {W W' : World} (h : Below W.heap.size W W') : ∀ p : MemPlace, p.block < W.heap.size → W.sameAt W' p
  | .cell b _, hp => World.cell?_of_block (h.block b hp)
  | .map b, hp => h.block b hp

theorem trodAll_below {W W' : World} {sp : Nat → Bool} : ∀ {ts : List TypeId} {vs : List Value} {ds : List (DataW H)} {ps : List MemPlace}, DataW.TrodAll enc Try.prog W 0 sp true ts vs ds ps → (∀ p ∈ ps, W.sameAt W' p) → DataW.TrodAll enc Try.prog W' 0 sp true ts vs ds ps
  | [], [], [], _, h, _ => h
  | _ :: _, _ :: _, _ :: _, _, ⟨p, q, ⟨n, h1⟩, h2, e⟩, hs => ⟨p, q, ⟨n, DataW.trod_carry n _ _ _ h1 (fun x hx => hs x (by rw [e]; exact List.mem_append_left _ hx))⟩, trodAll_below h2 (fun x hx => hs x (by rw [e]; exact List.mem_append_right _ hx)), e⟩

theorem keptBut_below {W W' : World} (h : Below W.heap.size W W') (may : MemPlace → Prop) : W.keptBut W' may := ⟨h.os, h.output, fun i hi => by
  rw [h.block i hi]
  cases hb : W.heap[i]? with
  | none => rfl
  | some o => cases o <;> first | rfl | exact ⟨rfl, rfl, rfl, fun _ _ => rfl⟩ | exact Or.inr ⟨rfl, rfl⟩⟩

/-- What is asked behind a law that answers true. -/
theorem post_true {f : Func} {s : ChangeSpec} {W W' : World} {args : Array Value} {ds gs : List (DataW H)} {before : List MemPlace}
    (hW : DataW.Whole enc Try.prog f.params.toList s.vars false W args.toList ds gs before) (hv : s.vars = []) (hts : ∀ t ∈ f.params.toList, t < Try.prog.types.size) (hrt : f.resultTypes = #[4])
    (hfn : s.fn H ds = { results := [.lit (.bool true)], args := ds }) (hB : Below W.heap.size W W') :
    s.post enc Try.prog f false true false false W args (.bool true) W' := by
  obtain ⟨p, q, hA, hV, rfl, hz, hn⟩ := hW
  obtain ⟨nm, vs, fn⟩ := s
  obtain rfl : vs = [] := hv
  obtain ⟨rfl, rfl⟩ := trodVars_none hV
  have hlt := hA.lt
  have hA' : DataW.TrodAll enc Try.prog W' 0 (fun _ => true) true f.params.toList args.toList ds p := trodAll_below hA (fun x hx => sameAt_below hB x (hlt x hx))
  have hsz : f.resultTypes.size = 1 := by rw [hrt]; rfl
  have hR : ∀ (b : Nat) (sp : Nat → Bool) (hd : Bool), DataW.TrodAll enc Try.prog W' b sp hd f.resultTypes.toList ((Value.bool true).resultList f.resultTypes.size) [.lit (.bool true)] [] := fun b sp hd => by
    rw [hrt]
    exact trodAll_mk1 (shut_bool Try.underlying4 true)
  refine ⟨ds, [], p ++ [], [], p, [], ⟨p, [], hA, hV, rfl, hz, hn⟩, ?_, ?_, ?_, keptBut_below hB _, fun h => by cases h⟩
  · rw [List.append_nil, hfn]; exact hR _ _ _
  · rw [List.append_nil, hfn]; exact DataW.TrodAll.respare kids full hts hA' (fun x hx => by simpa using hlt x hx)
  · rw [List.append_nil, hfn]; rfl

/-- A list of elements, as an argument. -/
theorem open_items {W : World} {fuel : Nat} {a : Option Addr} {len cap : Nat} {x : DataW H × List MemPlace} (h : DataW.trod enc Try.prog W 0 (fun _ => true) true fuel 22 [.slice a len cap] = some x) :
    ∃ d : Array It, d.size = len ∧ Rd2 W a d ∧ (∀ i, i < len → -9223372036854775808 ≤ d[i]!.1 ∧ d[i]!.1 ≤ 9223372036854775807 ∧ -9223372036854775808 ≤ d[i]!.2 ∧ d[i]!.2 ≤ 9223372036854775807) ∧ len ≤ maxLen := by
  rcases open_slice_pairs Try.underlying22 Try.underlying34 (by kernel_rfl) rfl rfl (by kernel_rfl) (by kernel_rfl) h with ⟨hc, _⟩ | ⟨a', len', cap', m, n, V0, V1, D0, D1, P0, P1, hc, _, hl, hm, hmm, _, hall⟩
  · simp only [List.cons.injEq, and_true, Value.slice.injEq] at hc
    obtain ⟨rfl, rfl, rfl⟩ := hc
    exact ⟨#[], rfl, fun h => absurd h (by simp), fun i hi => absurd hi (by omega), by decide⟩
  · simp only [List.cons.injEq, and_true, Value.slice.injEq] at hc
    obtain ⟨rfl, rfl, rfl⟩ := hc
    simp only [if_true] at hmm
    subst hmm
    have hint : ∀ i, i < m → ∃ x y : Int, V0 i = .int .i64 x ∧ V1 i = .int .i64 y ∧ (Lit.int .i64 x).wf = true ∧ (Lit.int .i64 y).wf = true := fun i hi => by
      obtain ⟨x, h1, _, h3⟩ := DataW.trod_int Try.underlying2 (hall i hi).2.2.1
      obtain ⟨y, g1, _, g3⟩ := DataW.trod_int Try.underlying2 (hall i hi).2.2.2
      simp only [List.cons.injEq, and_true] at h1 g1
      exact ⟨x, y, h1, g1, h3, g3⟩
    let X : Nat → Int := fun i => if h : i < m then (hint i h).choose else 0
    let Y : Nat → Int := fun i => if h : i < m then (hint i h).choose_spec.choose else 0
    have hX : ∀ i, i < len → V0 i = .int .i64 (X i) ∧ V1 i = .int .i64 (Y i) ∧ (Lit.int .i64 (X i)).wf = true ∧ (Lit.int .i64 (Y i)).wf = true := fun i hi => by
      have hi' : i < m := by omega
      simp only [X, Y, dif_pos hi']
      exact (hint i hi').choose_spec.choose_spec
    let d : Array It := ((List.range len).map fun i => (X i, Y i)).toArray
    have hd : ∀ i, i < len → d[i]! = (X i, Y i) := fun i hi => by
      have : d[i]? = some (X i, Y i) := by simp [d, hi]
      rw [getElem!_def, this]
    refine ⟨d, by simp [d], fun h0 => ?_, fun i hi => ?_, by omega⟩
    · have h0' : 0 < len := by simpa [d] using h0
      obtain ⟨b, off, spot⟩ := a'
      have hspot : spot = none := by simpa [Addr.add] using World.cell?_spot (hall 0 (by omega)).1
      subst hspot
      refine ⟨b, off, rfl, ?_, fun i hi => ?_⟩
      · have := (hall 0 (by omega)).1
        exact World.block_lt_of_cell? _ _ this
      · have hi' : i < len := by simpa [d] using hi
        rw [hd i hi', ← (hX i hi').1, ← (hX i hi').2.1, Nat.add_assoc, ← Go.WideShapes.add_plain, ← Go.WideShapes.add_plain]
        exact ⟨(hall i (by omega)).1, (hall i (by omega)).2.1⟩
    · rw [hd i hi]
      have h1 := bounds_i64 (hX i hi).2.2.1
      have h2 := bounds_i64 (hX i hi).2.2.2
      exact ⟨h1.1, h1.2, h2.1, h2.2⟩

theorem open_i64 {w : World} {base : Nat} {t : TypeId} {v : Value} (ht : Try.prog.underlying t = some (.int .i64)) (h : Value.okWide Try.prog w .any base t v) : ∃ n, v = .int .i64 n ∧ -9223372036854775808 ≤ n ∧ n ≤ 9223372036854775807 := by
  simp only [Value.okWide, ht, Cell.okWide] at h
  cases v <;> simp_all [Cell.ok, IntKind.has, IntKind.min, IntKind.max, IntKind.signed, IntKind.bits]

theorem row_ok {w : World} {base : Nat} {t : TypeId} {v : Value} {fs : Array Field} {ts : List TypeId} (ht : Try.prog.underlying t = some (.struct fs)) (hts : Try.prog.cellTypes Try.prog.depth t = some ts) (hc : Try.prog.cellsOf t = ts.length) (h : Value.okWide Try.prog w .any base t v) :
    ∃ cs, v = .agg cs ∧ cs.size = ts.length ∧ ∀ (i : Nat) (v : Value) (u : TypeId), ts[i]? = some u → cs[i]? = some v → Cell.okWide Try.prog w .any base u v := by
  simp only [Value.okWide, ht] at h
  obtain ⟨cs, rfl, hs, ts', h1, _, h3⟩ := h
  rw [hts] at h1
  cases h1
  refine ⟨cs, rfl, hs.trans hc, fun i v u hu hv => ?_⟩
  obtain ⟨u', e, hk⟩ := h3 i v hv
  have hi : i < ts.length := (List.getElem?_eq_some_iff.1 hu).1
  rw [Nat.mod_eq_of_lt hi, hu] at e
  cases e
  exact hk

theorem cell_i64 {w : World} {base : Nat} {t : TypeId} {v : Value} (ht : Try.prog.underlying t = some (.int .i64)) (h : Cell.okWide Try.prog w .any base t v) : ∃ n, v = .int .i64 n ∧ -9223372036854775808 ≤ n ∧ n ≤ 9223372036854775807 := by
  simp only [ht, Cell.okWide] at h
  cases v <;> simp_all [Cell.ok, IntKind.has, IntKind.min, IntKind.max, IntKind.signed, IntKind.bits]
theorem cell_u64 {w : World} {base : Nat} {t : TypeId} {v : Value} (ht : Try.prog.underlying t = some (.int .u64)) (h : Cell.okWide Try.prog w .any base t v) : ∃ n, v = .int .u64 n ∧ 0 ≤ n ∧ n ≤ 18446744073709551615 := by
  simp only [ht, Cell.okWide] at h
  cases v <;> simp_all [Cell.ok, IntKind.has, IntKind.min, IntKind.max, IntKind.signed, IntKind.bits]

theorem open_order {w : World} {base : Nat} {v : Value} (h : Value.okWide Try.prog w .any base 26 v) : ∃ o : Ordr, v = vOrd o ∧ (-9223372036854775808 ≤ o.kind ∧ o.kind ≤ 9223372036854775807) ∧ (-9223372036854775808 ≤ o.shift ∧ o.shift ≤ 9223372036854775807) ∧ (0 ≤ o.m0 ∧ o.m0 ≤ 18446744073709551615) ∧ (0 ≤ o.m1 ∧ o.m1 ≤ 18446744073709551615) ∧ (0 ≤ o.m2 ∧ o.m2 ≤ 18446744073709551615) := by
  obtain ⟨cs, rfl, hz, hc⟩ := row_ok (ts := [3, 3, 23, 23, 23]) Try.underlying26 (by kernel_rfl) (by kernel_rfl) h
  obtain ⟨v0, v1, v2, v3, v4, rfl⟩ : ∃ v0 v1 v2 v3 v4, cs = #[v0, v1, v2, v3, v4] := by
    obtain ⟨l⟩ := cs
    match l, hz with
    | [v0, v1, v2, v3, v4], _ => exact ⟨v0, v1, v2, v3, v4, rfl⟩
  obtain ⟨k, rfl, hk⟩ := cell_i64 Try.underlying3 (hc 0 v0 _ rfl rfl)
  obtain ⟨s, rfl, hs⟩ := cell_i64 Try.underlying3 (hc 1 v1 _ rfl rfl)
  obtain ⟨m0, rfl, h0⟩ := cell_u64 Try.underlying23 (hc 2 v2 _ rfl rfl)
  obtain ⟨m1, rfl, h1⟩ := cell_u64 Try.underlying23 (hc 3 v3 _ rfl rfl)
  obtain ⟨m2, rfl, h2⟩ := cell_u64 Try.underlying23 (hc 4 v4 _ rfl rfl)
  exact ⟨⟨k, s, m0, m1, m2⟩, rfl, hk, hs, h0, h1, h2⟩

theorem open_item {w : World} {base : Nat} {v : Value} (h : Value.okWide Try.prog w .any base 34 v) : ∃ x : It, v = vIt x ∧ (-9223372036854775808 ≤ x.1 ∧ x.1 ≤ 9223372036854775807) ∧ (-9223372036854775808 ≤ x.2 ∧ x.2 ≤ 9223372036854775807) := by
  obtain ⟨cs, rfl, hz, hc⟩ := row_ok (ts := [2, 2]) Try.underlying34 (by kernel_rfl) (by kernel_rfl) h
  obtain ⟨v0, v1, rfl⟩ : ∃ v0 v1, cs = #[v0, v1] := by
    obtain ⟨l⟩ := cs
    match l, hz with
    | [v0, v1], _ => exact ⟨v0, v1, rfl⟩
  obtain ⟨k, rfl, hk⟩ := cell_i64 Try.underlying2 (hc 0 v0 _ rfl rfl)
  obtain ⟨s, rfl, hs⟩ := cell_i64 Try.underlying2 (hc 1 v1 _ rfl rfl)
  exact ⟨(k, s), rfl, hk, hs⟩
end
end Go.Proofs.Ytglgmkikegbchaa
