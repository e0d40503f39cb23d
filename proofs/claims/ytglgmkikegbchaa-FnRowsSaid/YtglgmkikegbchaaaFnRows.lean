/- FnRows: a list has the elements that were put, in their places, behind each step: laws.FnRows answers true at every input and leaves it as it was. No conditions. -/
import Derived.Test.YtglgmkikegbchaaaSpecR
import Derived.Test.YtglgmkikegbchaaaEqual
import Derived.Test.YtglgmkikegbchaaJoin
import Derived.Test.YtglgmkikegbchaaWorks
import Derived.Deep.SlicePairs
namespace Go.Proofs.Ytglgmkikegbchaa
open Go.ChangeShapes Go.WideShapes Go.ChangeAt Go.RowKit Go.Deep
set_option maxRecDepth 100000

section
variable {H : Type} {enc : TypeId × Value → H} {W : World}
theorem open_step {fuel : Nat} {cs : List Value} {x : DataW H × List MemPlace} (hl : cs.length = 3) (h : DataW.trod enc Try.prog W 0 (fun _ => true) true fuel 93 cs = some x) :
    ∃ k a b : Int, cs = [.int .i64 k, .int .i64 a, .int .i64 b] := by
  obtain ⟨xs, k, hk, hxy, _, hxl, hf⟩ := DataW.trod_struct (Try.underlying93) h
  match xs, hxl, cs, hl with
  | [y0, y1, y2], _, [v0, v1, v2], _ =>
    have g0 := hf 0 _ rfl
    have g1 := hf 1 _ rfl
    have g2 := hf 2 _ rfl
    obtain ⟨a0, e0, _⟩ := DataW.trod_int Try.underlying3 g0
    obtain ⟨a1, e1, _⟩ := DataW.trod_int Try.underlying3 g1
    obtain ⟨a2, e2, _⟩ := DataW.trod_int Try.underlying3 g2
    have c3 : Try.prog.cellsOf 3 = 1 := by kernel_rfl
    have e0' : [v0] = [Value.int .i64 a0] := by
      have : List.take (Try.prog.cellsOf 3) [v0, v1, v2] = [Value.int .i64 a0] := e0
      rwa [c3] at this
    have e1' : [v1] = [Value.int .i64 a1] := by
      have : List.take (Try.prog.cellsOf 3) [v1, v2] = [Value.int .i64 a1] := e1
      rwa [c3] at this
    have e2' : [v2] = [Value.int .i64 a2] := by
      have : List.take (Try.prog.cellsOf 3) [v2] = [Value.int .i64 a2] := e2
      rwa [c3] at this
    simp only [List.cons.injEq, and_true] at e0' e1' e2'
    exact ⟨a0, a1, a2, by rw [e0', e1', e2']⟩

theorem open_steps {fuel : Nat} {a : Option Addr} {len cap : Nat} {x : DataW H × List MemPlace} (h : DataW.trod enc Try.prog W 0 (fun _ => true) true fuel 54 [.slice a len cap] = some x) :
    ∃ d : Array Stp, d.size = len ∧ Rd3 W a d := by
  rcases open_slice Try.underlying54 h with ⟨hc, _⟩ | ⟨a', len', cap', m, n, D, Pl, hc, _, hl, hm, hmm, _, hall⟩
  · simp only [List.cons.injEq, and_true, Value.slice.injEq] at hc
    obtain ⟨rfl, rfl, rfl⟩ := hc
    exact ⟨#[], rfl, fun h => absurd h (by simp)⟩
  · simp only [List.cons.injEq, and_true, Value.slice.injEq] at hc
    obtain ⟨rfl, rfl, rfl⟩ := hc
    simp only [if_true] at hmm
    subst hmm
    have ce : Try.prog.cellsOf 93 = 3 := by kernel_rfl
    have each : ∀ i, i < m → ∃ s : Stp, W.cell? (a'.add (i * 3)) = some (.int .i64 s.k) ∧ W.cell? (a'.add (i * 3 + 1)) = some (.int .i64 s.a) ∧ W.cell? (a'.add (i * 3 + 2)) = some (.int .i64 s.b) := fun i hi => by
      obtain ⟨cs, h1, h2⟩ := hall i hi
      rw [ce] at h1
      obtain ⟨_, hlen, hcell⟩ := World.cells?_some h1
      obtain ⟨k, a, b, rfl⟩ := open_step hlen h2
      have e0 := hcell 0 (by omega)
      have e1 := hcell 1 (by omega)
      have e2 := hcell 2 (by omega)
      rw [add_add] at e0 e1 e2
      exact ⟨⟨k, a, b⟩, by simpa using e0, by simpa using e1, by simpa using e2⟩
    let X : Nat → Stp := fun i => if h : i < m then (each i h).choose else ⟨0, 0, 0⟩
    have hX : ∀ i, i < len → W.cell? (a'.add (i * 3)) = some (.int .i64 (X i).k) ∧ W.cell? (a'.add (i * 3 + 1)) = some (.int .i64 (X i).a) ∧ W.cell? (a'.add (i * 3 + 2)) = some (.int .i64 (X i).b) := fun i hi => by
      have hi' : i < m := by omega
      simp only [X, dif_pos hi']
      exact (each i hi').choose_spec
    let d : Array Stp := ((List.range len).map X).toArray
    have hd : ∀ i, i < len → d[i]! = X i := fun i hi => by
      have : d[i]? = some (X i) := by simp [d, hi]
      rw [getElem!_def, this]
    refine ⟨d, by simp [d], fun h0 => ?_⟩
    have h0' : 0 < len := by simpa [d] using h0
    obtain ⟨b, off, spot⟩ := a'
    have hspot : spot = none := by simpa [Addr.add] using World.cell?_spot (hX 0 (by omega)).1
    subst hspot
    refine ⟨b, off, rfl, World.block_lt_of_cell? _ _ (hX 0 (by omega)).1, fun i hi => ?_⟩
    have hi' : i < len := by simpa [d] using hi
    rw [hd i hi', Nat.add_assoc, Nat.add_assoc, ← Go.WideShapes.add_plain, ← Go.WideShapes.add_plain, ← Go.WideShapes.add_plain]
    exact hX i hi'
end

theorem own_rows {w : World} {base n : Nat} {e : TypeId} {v : Value} {vs : List Value} (h : w.ownsRow base e 1 v n vs) : ∃ ad c, v = .slice ad n c ∧ vs.length = n ∧ ∀ i u, vs[i]? = some u → ∃ g, ad = some ⟨g, 0, none⟩ ∧ w.cell? ⟨g, i, none⟩ = some u := by
  have hl : vs.length = n := by simpa using h.1
  rcases h.2 with ⟨rfl, h0⟩ | ⟨g, c, cur, rfl, _, hg, _, _, _, htk⟩
  · exact ⟨none, 0, by rw [h0], hl, fun i u hi => by have := (List.getElem?_eq_some_iff.1 hi).1; omega⟩
  · refine ⟨_, c, rfl, hl, fun i u hi => ⟨g, rfl, ?_⟩⟩
    have := h.cells (g := g) rfl i u hi
    rwa [Addr.add_lit, Nat.zero_add] at this

set_option maxHeartbeats 8000000 in
set_option maxRecDepth 1000000 in
theorem fnRows_walk (a : Option Addr) (cap n : Nat) (d : Array Stp) (w : World) (h : Rd3 w a d) (hn : d.size = n) :
    Calls Try.prog 9 #[.slice a n cap] w fun e w' => e = .returned (.bool true) ∧ Below w.heap.size w w' := by
  by_cases h1 : 2147483647 < n
  · have h1z : (2147483647 : Int) < (n : Int) := by omega
    go_enter Try.func9, Try.ntmps9
    go_wp2_with fail
    go_ret
    exact ⟨rfl, Below.refl _ _⟩
  · have h1z : ¬ (2147483647 : Int) < (n : Int) := by omega
    have H : Aside (Rd3 w a d ∧ d.size = n) := ⟨h, hn⟩
    have C1 := hide (specRows_calls a cap n d w h hn (by omega))
    clear h hn
    go_enter Try.func9, Try.ntmps9
    go_wp2_with fail
    refine C1.out.mono ?_
    rintro e w1 ⟨hb1, ⟨v, rfl⟩ | ⟨hn4, hok, v2, vs, rfl, ho, hr⟩⟩
    · have HB : Aside (Below w.heap.size w w1) := hb1
      clear C1 hb1 H
      go_wp2_with fail
      refine (works_calls _).mono ?_
      rintro e w2 ⟨rfl, hb⟩
      have HB2 : Aside (Below w.heap.size w w2) := Below.nxt HB.out hb
      clear HB hb
      go_wp2_with fail
      go_ret
      exact ⟨rfl, HB2.out⟩
    · have C2 := hide (rows_calls a cap n d w1 (H.out.1.below hb1 (Nat.le_refl _)) H.out.2 hn4 hok)
      have HV : Aside (w1.ownsRow w.heap.size 59 1 v2 n vs ∧ RowsI w1 vs (rowsP d n) ∧ Below w.heap.size w w1 ∧ n ≤ 400) := ⟨ho, hr, hb1, hn4⟩
      clear C1 ho hr hb1 hok hn4 H
      obtain ⟨ad1, cp1, hv1, hl1, hcell1⟩ := own_rows HV.out.1
      subst hv1
      go_wp2_with fail
      refine C2.out.mono ?_
      rintro e w2 ⟨v2', vs', rfl, ho', hr', hb2⟩
      obtain ⟨ad2, cp2, hv2, hl2, hcell2⟩ := own_rows ho'
      subst hv2
      have HB : Aside (Below w.heap.size w w2) := Below.nxt HV.out.2.2.1 hb2
      have HR : Aside (∀ i, i < n → ∃ (g1 g2 : Nat) (a1 a2 : Option Addr) (m c1 c2 : Nat), ad1 = some ⟨g1, 0, none⟩ ∧ ad2 = some ⟨g2, 0, none⟩ ∧ w2.cell? ⟨g1, i, none⟩ = some (.slice a1 m c1) ∧ w2.cell? ⟨g2, i, none⟩ = some (.slice a2 m c2) ∧
          ∀ q p, Calls Try.prog 30 #[.slice a2 m c2, .slice a1 m c1] ((w2.drewN q).drewN p) fun e w' => e = .returned (.bool true) ∧ ∃ k, w' = ((w2.drewN q).drewN p).drewN k) := fun i hi => by
        obtain ⟨g1, e1, k1⟩ := hcell1 i _ (List.getElem?_eq_getElem (by omega))
        obtain ⟨g2, e2, k2⟩ := hcell2 i _ (List.getElem?_eq_getElem (by omega))
        have hrl : (rowsP d n)[i]? = some (stP d (i + 1)).r := by simp [rowsP, hi]
        have r1 := (HV.out.2.1.2 i _ _ (List.getElem?_eq_getElem (by omega)) hrl).below hb2
        have r2 := hr'.2 i _ _ (List.getElem?_eq_getElem (by omega)) hrl
        obtain ⟨a1, c1, f1⟩ := r1.form
        obtain ⟨a2, c2, f2⟩ := r2.form
        have k1' := (hb2.cell (lt_of_cell k1)).trans k1
        rw [f1] at r1 k1'
        rw [f2] at r2 k2
        have hbn := stP_bounds d (i + 1)
        have h400 := HV.out.2.2.2
        refine ⟨g1, g2, a1, a2, _, c1, c2, e1, e2, k1', k2, fun q p => ?_⟩
        have hbq : Below w2.heap.size w2 ((w2.drewN q).drewN p) := ⟨rfl, rfl, rfl, Nat.le_refl _, fun _ _ => rfl⟩
        exact equal_calls _ _ _ _ (r2.below hbq) (r1.below hbq) (by omega)
      have HN : Aside (n ≤ 400) := HV.out.2.2.2
      clear C2 HV ho' hr' hb2 hcell1 hcell2 hl1 hl2
      go_wp2_with fail
      go_loopg [35] n (fun g vi wr => ∃ i q : Nat, vi = .int .i64 i ∧ i ≤ n ∧ n - i ≤ g ∧ wr = w2.drewN q)
      case atStart => exact ⟨0, 0, rfl, by omega, by omega, rfl⟩
      case round =>
        obtain ⟨i, q, rfl, hin, hg, rfl⟩ := hrel
        by_cases hlt : i < n
        · have hltz : (i : Int) < (n : Int) := by omega
          obtain ⟨g1, g2, a1, a2, m, c1, c2, rfl, rfl, k1, k2, EC⟩ := HR.out i hlt
          obtain ⟨Wr, hWr⟩ : ∃ X, X = w2.drewN q := ⟨_, rfl⟩
          have p1 : Wr.cell? ⟨g1, i, none⟩ = some (.slice a1 m c1) := by rw [hWr]; exact cell_drn k1 q
          have p2 : Wr.cell? ⟨g2, i, none⟩ = some (.slice a2 m c2) := by rw [hWr]; exact cell_drn k2 q
          have q1 := cell_drn p1
          have q2 := cell_drn p2
          have EQ : Aside (∀ p, Calls Try.prog 30 #[.slice a2 m c2, .slice a1 m c1] (Wr.drewN p) fun e w' => e = .returned (.bool true) ∧ ∃ k, w' = (Wr.drewN p).drewN k) := fun p => by rw [hWr]; exact EC q p
          have HWr : Aside (Wr = w2.drewN q) := hWr
          have hn4 : n ≤ 400 := HN.out
          rw [← hWr]
          clear k1 k2 EC hWr
          go_wp2_with fail
          go_quiet (first | (go_at_call 30; exact Calls.quiet_of (EQ.out _)))
          go_wp2_with fail
          go_roundg (n - (i + 1))
          case measure => omega
          case rel => exact ⟨i + 1, q + nq, by go_num, by omega, by omega, by rw [HWr.out]; simp [World.drewN, Nat.add_assoc]⟩
        · have hltz : ¬ (i : Int) < (n : Int) := by omega
          go_wp2_with fail
          refine (works_calls _).mono ?_
          rintro e w3 ⟨rfl, hb⟩
          have HB2 : Aside (Below w.heap.size w w3) := Below.nxt (Below.nxt HB.out (⟨rfl, rfl, rfl, Nat.le_refl _, fun _ _ => rfl⟩ : Below w2.heap.size w2 (w2.drewN q))) hb
          clear HB hb HR
          go_wp2_with fail
          go_ret
          exact ⟨rfl, HB2.out⟩

theorem fnRows_lifted (os : Os) (started : os.Started) (H : Type) (enc : TypeId × Value → H) :
    ReturnsInHanded {} Try.checked os 9 .any (Rows.fnRowsSpec.pre6 enc Try.prog Try.f9 Rows.fnRowsRow.domain false) (Rows.fnRowsSpec.post enc Try.prog Try.f9 false true false false) := by
  refine returnsInHanded_of_change (C := Try.checked) own started (by kernel_rfl) Try.func9
    (ChangeSpec.witness6 (enc := enc) (C := Try.checked) false ⟨#[], #[.slice none 0 0], []⟩ 8 (by kernel_rfl) (by kernel_rfl) (by kernel_rfl) (by kernel_rfl)) ?_
  intro W base args ds gs before hval0 hW _ _
  have hval : ∀ (j : Nat) t v, Try.f9.params[j]? = some t → args[j]? = some v → Value.okWide Try.prog W .any base t v := hval0
  have hW' := hW
  obtain ⟨p, q, hA0, hV, rfl, _, _⟩ := hW
  have hA : DataW.TrodAll enc Try.prog W 0 (fun _ => true) true Try.f9.params.toList args.toList ds p := hA0
  rw [Try.params9] at hA hval
  obtain ⟨v0, d0, rfl, rfl, h0⟩ := trodAll_one hA
  obtain ⟨a, len, cap, rfl⟩ := okWide_slice Try.underlying54 (hval 0 54 v0 rfl rfl)
  obtain ⟨fuel, hf⟩ := h0
  obtain ⟨d, hd, hr⟩ := open_steps hf
  refine (fnRows_walk a cap len d W hr hd).mono fun e W' ⟨he, hB⟩ => ?_
  subst he
  exact ⟨_, rfl, post_true hW' rfl (by rw [Try.params9]; decide) rfl rfl hB⟩

theorem fnRows_over : Rows.fnRowsRow.holds Try.pinned (OpenSpec.ofChange Rows.fnRowsSpec) :=
  OpenClaim.holds_of_wide 9 Try.f9 rfl rfl rfl rfl rfl rfl rfl ⟨rfl, rfl, rfl, rfl, rfl⟩ rfl rfl rfl rfl rfl (by kernel_rfl) Try.func9 (by kernel_rfl)
    (of_decide_eq_true (by kernel_rfl)) (by unfold Func.isWrapper; first | (rw [if_pos (by decide +kernel)]; kernel_rfl) | (rw [if_neg (by decide +kernel)]; exact ⟨rfl, rfl⟩))
    (fun os started H enc _ => fnRows_lifted os started H enc)

theorem fnRows_proved : Rows.FnRowsSaid := fnRows_over
end Go.Proofs.Ytglgmkikegbchaa
