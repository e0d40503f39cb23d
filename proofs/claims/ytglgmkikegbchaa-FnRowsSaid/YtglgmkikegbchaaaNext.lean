/- spec.next: a row behind a step. -/
import Derived.Test.YtglgmkikegbchaaaSl
import Derived.Test.YtglgmkikegbchaaaStep
import Derived.Deep.RegionHeldLaw
import Derived.Deep.AppendLies
import Derived.BigQuiet
import Derived.Deep.QuietTactic
import Derived.Deep.LoopGhost
import Derived.Deep.CutRange
import Derived.WalkSpells
namespace Go.Proofs.Ytglgmkikegbchaa
open Go.RowKit

theorem hid {p : Prop} (h : p) : Aside p := h
theorem own_mono {w : World} {base base' size n : Nat} {e : TypeId} {v : Value} {xs : List Value} (h : w.ownsRow base e size v n xs) (hb : base' ≤ base) : w.ownsRow base' e size v n xs := by
  refine ⟨h.1, ?_⟩
  rcases h.2 with hn | ⟨g, cap, cur, e1, h0, hgg, rest⟩
  · exact .inl hn
  · exact .inr ⟨g, cap, cur, e1, by omega, hgg, rest⟩
theorem Below.nxt {w w1 w2 : World} (h : Below w.heap.size w w1) (h2 : Below w1.heap.size w1 w2) : Below w.heap.size w w2 := h.trans (h2.mono h.size)
theorem lt_of_cell {w : World} {p : Addr} {v : Value} (h : w.cell? p = some v) : p.block < w.heap.size := World.block_lt_of_cell? w p h

set_option maxHeartbeats 4000000 in
set_option maxRecDepth 1000000 in
theorem without_calls (v : Value) (r l1 l2 : List Int) (a : Int) (br ba : Nat) (w : World) (h : RowI 3 w v r) (hr : r = l1 ++ a :: l2) (hl : r.length ≤ 1000) (k0 : w.cell? ⟨br, 0, none⟩ = some v) (k1 : w.cell? ⟨ba, 0, none⟩ = some (.int .i64 (l1.length : Int))) :
    Calls Try.prog 84 #[.pointer (some ⟨br, 0, none⟩), .pointer (some ⟨ba, 0, none⟩)] w fun e w' => ∃ v', e = .returned v' ∧ w'.ownsRow w.heap.size 3 1 v' (l1 ++ l2).length ((l1 ++ l2).map (Value.int .i64)) ∧ Below w.heap.size w w' := by
  have HC : Aside (∀ W : World, Below w.heap.size w W → Calls Try.prog 59 #[v] W fun e w' => ∃ v', e = .returned v' ∧ w'.ownsRow w.heap.size 3 1 v' r.length (r.map (Value.int .i64)) ∧ Below w.heap.size w w') := fun W hb =>
    (clone_calls (h.below hb) hl).mono (fun e w' ⟨v', h1, h2, h3⟩ => ⟨v', h1, own_mono h2 hb.size, Below.nxt hb h3⟩)
  have HD : Aside (∀ (v1 : Value) (W : World), W.ownsRow w.heap.size 3 1 v1 r.length (r.map (Value.int .i64)) → Below w.heap.size w W → Calls Try.prog 85 #[v1, .int .i64 (l1.length : Int), .int .i64 ((l1.length : Int) + 1)] W fun e w' => ∃ v', e = .returned v' ∧ w'.ownsRow w.heap.size 3 1 v' (l1 ++ l2).length ((l1 ++ l2).map (Value.int .i64)) ∧ Below w.heap.size w w') := fun v1 W ho hb => by
    rw [hr] at ho
    exact (delete_calls ho (by rw [← hr]; exact hl)).mono (fun e w' ⟨v', h1, h2, h3⟩ => ⟨v', h1, h2, hb.grown h3 hb.size (fun k hk => (ho.lt k hk).1)⟩)
  obtain ⟨av, cv, hv⟩ := h.form
  obtain ⟨n, hn⟩ : ∃ n, n = r.length := ⟨_, rfl⟩
  rw [← hn] at hv HC HD
  obtain ⟨q, hq⟩ : ∃ q, q = l1.length := ⟨_, rfl⟩
  rw [← hq] at HD k1
  have hqn : q < n := by rw [hn, hq, hr]; simp <;> omega
  have x2 : IntKind.i64.wrap ((q : Int) + 1) = (q : Int) + 1 := by rw [IntKind.wrap_i64]; omega
  have hb0 : Below w.heap.size w w := Below.refl _ _
  have hbd : Below w.heap.size w w.drew := (Below.refl _ w).drew
  subst hv
  clear h hr hn hq hl
  go_enter Try.func84, Try.ntmps84
  go_upto_region 1 with fail
  go_region_held (fun w' => Below w.heap.size w w' ∧ w'.cell? ⟨br, 0, none⟩ = some (.slice av n cv) ∧ w'.cell? ⟨ba, 0, none⟩ = some (.int .i64 (q : Int))) (first | assumption | exact ⟨hb0, k0, k1⟩ | exact ⟨hbd, k0, k1⟩ | go_keep)
    (first
      | (go_at_call 59; refine Calls.mono (HC.out _ (by assumption)) ?_; rintro e w1 ⟨v1, rfl, ho1, hb1⟩; have SS1 := And.intro hb1 (And.intro ((hb1.cell (lt_of_cell k0)).trans k0) ((hb1.cell (lt_of_cell k1)).trans k1)))
      | (go_at_call 85; refine Calls.mono (HD.out _ _ ho1 (by assumption)) ?_; rintro e w2 ⟨v2, rfl, ho2, hb2⟩; have SS2 := And.intro hb2 (And.intro ((hb2.cell (lt_of_cell k0)).trans k0) ((hb2.cell (lt_of_cell k1)).trans k1))))
  have HR : Aside _ := And.intro ho2 hb2
  clear SS1 SS2 ho1 ho2 hb1 hb2 HC HD k0 k1
  go_wp2_with fail
  go_ret
  exact ⟨_, rfl, HR.out⟩

/-- What next tells. -/
def NextTo (w : World) (r : List Int) (m : Int) (s : Stp) (e : Ending) (w' : World) : Prop := ∃ v', e = .returned (.tuple #[v', .int .i64 (madeP r m s)]) ∧ RowI 3 w' v' (rowP r m s).1 ∧ Below w.heap.size w w'
theorem nextTo {w w' : World} {r r' : List Int} {m x : Int} {s : Stp} {b : Bool} {v' : Value} (hp : rowP r m s = (r', b)) (h : RowI 3 w' v' r') (hb : Below w.heap.size w w') (hx : x = if b then m + 1 else m) : NextTo w r m s (.returned (.tuple #[v', .int .i64 x])) w' := by
  refine ⟨v', ?_, by rw [hp]; exact h, hb⟩
  rw [hx, madeP, hp]
theorem own_one (W : World) {base : Nat} (x : Int) (hb : base ≤ W.heap.size) : (W.alloc (.cells #[.int .i64 x] 3)).ownsRow base 3 1 (.slice (some ⟨W.heap.size, 0, none⟩) 1 1) 1 [.int .i64 x] :=
  own_cells (xs := [.int .i64 x]) hb (heap_alloc_new W _) (Nat.le_refl _) (by unfold maxLen; omega) rfl (fun j u hj => by
    cases j with
    | zero => simpa using hj
    | succ j => simp at hj)
theorem one_cell {X : World} {b : Nat} {x : Value} (j : Nat) (u : Value) (hc : X.cell? ⟨b, 0, none⟩ = some x) : [x][j]? = some u → X.cell? ((⟨b, 0, none⟩ : Addr).add j) = some u := fun hj => by
  cases j with
  | zero => simp at hj; subst hj; rw [Addr.add_lit]; exact hc
  | succ j => simp at hj
theorem RowI.news {w : World} {ad : Addr} {n c : Nat} {r : List Int} (h : RowI 3 w (.slice (some ad) n c) r) : ∀ (j : Nat) (u : Value), (r.map (Value.int .i64))[j]? = some u → w.cell? (ad.add j) = some u := fun j u hj => by
  obtain ⟨a', c', e', _, h⟩ := h
  simp only [Value.slice.injEq] at e'
  obtain ⟨rfl, rfl, rfl⟩ := e'
  have hl : j < r.length := by have := (List.getElem?_eq_some_iff.1 hj).1; simpa using this
  obtain ⟨b, off, cs, h1, hg, hc⟩ := h (by omega)
  simp only [Option.some.injEq] at h1
  subst h1
  rw [List.getElem?_map, List.getElem?_eq_getElem hl] at hj
  simp only [Option.map_some, Option.some.injEq] at hj
  subst hj
  rw [Addr.add_lit, cell_of_row _ _ _ _ _ _ hg]
  exact hc j _ (List.getElem?_eq_getElem hl)
theorem below_alc (w : World) (o : Obj) : Below w.heap.size w (w.alloc o) := (Below.refl _ w).alloc (Nat.le_refl _) _
/-- append of a row to an own one, at a step of a region that draws its order. -/
theorem step_app {w0 w : World} {ops : Array Oper} {o : Oper} {a : Act} {K : Act → World → Prop} {Q : Exit → Act → World → Prop} {E : Prop} (hw : Region.wanted o (yielded ops a.tmps) = true) (s x : Operand)
    (ho : o.op = .call { callee := .builtin .append, args := #[s, x], argTypes := #[59, 59] })
    (v : Value) (n : Nat) (l : List Int) (hs : a.eval s = v) (hown : w.ownsRow w0.heap.size 3 1 v n (l.map (Value.int .i64))) (hb : Below w0.heap.size w0 w)
    (vx : Value) (r2 : List Int) (hx : a.eval x = vx) (hrow : RowI 3 w vx r2) (hlen : n + r2.length ≤ 2000)
    (h : ∀ v' w', Aside (RowI 3 w' v' (l ++ r2) ∧ Below w0.heap.size w0 w') → K (a.put o.dst v') w') :
    if Region.wanted o (yielded ops a.tmps) = true then Oper.wp Try.prog o a w K Q else E := by
  obtain ⟨i0, hi, hz0, hz1, hz2⟩ := info_parts (show (Try.prog.info? 3).map (fun i => (i.zero, i.size, i.bytes)) = some (some (.int .i64 0), 1, 8) by kernel_rfl)
  rw [if_pos hw]
  obtain ⟨ax, cx, e⟩ := hrow.form
  subst e
  cases ax with
  | none =>
    obtain ⟨h1, h2, h3⟩ := hrow.bare
    subst h3
    subst h2
    have hrun := run_append_owned_none (P := Try.prog) (w := w) w0.heap.size 59 o.type 3 i0 1 Try.underlying59 hi v n (l.map (Value.int .i64)) hown
    unfold Oper.wp execOp
    simp only [List.length_nil] at hx
    simp only [ho, resolve, invoke, builtin, Sem.run_bind, Sem.run_pure, Result.andThen_ok, List.map_toArray, List.map_cons, List.map_nil, hs, hx, hrun]
    exact h v w ⟨by rw [List.append_nil]; exact (rowI_own hown).1, hb⟩
  | some ad =>
    refine wp_append_own w s x 59 ho w0.heap.size 3 i0 (.int .i64 0) 1 8 Try.underlying59 hi hz0 hz1 hz2 rfl (by decide) v n (l.map (Value.int .i64)) hs hown ad r2.length cx (r2.map (Value.int .i64)) hx (by simp) hrow.news (fun u hu => by obtain ⟨y, _, rfl⟩ := List.mem_map.1 hu; rfl) (by unfold maxLen; omega) (by omega) hb.size (fun v' w' h1 h2 _ => ?_)
    rw [← List.map_append] at h1
    exact h v' w' ⟨(rowI_own h1).1, hb.grown h2 hb.size (fun k hk => (hown.lt k hk).1)⟩

set_option maxHeartbeats 8000000 in
set_option maxRecDepth 1000000 in
theorem next_calls (v : Value) (r : List Int) (M : Nat) (sk sa sb : Int) (w : World) (h : RowI 3 w v r) (hl : r.length ≤ 500) (hM : M ≤ 500) (hk : 0 ≤ sk ∧ sk < 10) :
    Calls Try.prog 58 #[v, .int .i64 M, .agg #[.int .i64 sk, .int .i64 sa, .int .i64 sb]] w (NextTo w r M ⟨sk, sa, sb⟩) := by
  have hmf : ∀ (fn : Fn) (first cap : Array Value) (w : World), (Instr.makeFunc fn first cap).run Try.prog w = .ok (.func fn first cap) w := fun _ _ _ _ => rfl
  obtain ⟨av, cv, hv⟩ := h.form
  obtain ⟨n, hn⟩ : ∃ n, n = r.length := ⟨_, rfl⟩
  rw [← hn] at hv
  subst hv
  have HN : Aside (n = r.length ∧ n ≤ 500) := ⟨hn, by omega⟩
  obtain ⟨U, hU⟩ : ∃ U, U = (w.alloc (.cells #[.slice av n cv] 59)).alloc (.cells #[.int .i64 sk, .int .i64 sa, .int .i64 sb] 93) := ⟨_, rfl⟩
  have BU : Below w.heap.size w U := by rw [hU]; exact ((Below.refl _ w).alloc (Nat.le_refl _) _).alloc (by simp) _
  have hsz : U.heap.size = w.heap.size + 2 := by rw [hU]; simp
  have g0 : U.heap[w.heap.size]? = some (.cells #[.slice av n cv] 59 (0, 0)) := by
    rw [hU]; exact (heap_alloc_old _ _ (by simp)).trans (heap_alloc_new w _)
  have g1 : U.heap[w.heap.size + 1]? = some (.cells #[.int .i64 sk, .int .i64 sa, .int .i64 sb] 93 (0, 0)) := by
    have := heap_alloc_new (w.alloc (.cells #[.slice av n cv] 59)) (.cells #[.int .i64 sk, .int .i64 sa, .int .i64 sb] 93)
    rw [← hU] at this
    simpa using this
  have CI := hid (index_calls (h.below BU) (by omega) sa)
  have u0 : U.cell? ⟨w.heap.size, 0, none⟩ = some (.slice av n cv) := cell_of_row _ _ 0 _ _ _ g0
  have u1 : U.cell? ⟨w.heap.size + 1, 1, none⟩ = some (.int .i64 sa) := cell_of_row _ _ 1 _ _ _ g1
  obtain ⟨at0, hat⟩ : ∃ x, x = Lib.idxOf r sa := ⟨_, rfl⟩
  rw [← hat] at CI
  obtain ⟨W, hW⟩ : ∃ W, W = U.alloc (.cells #[.int .i64 at0] 3) := ⟨_, rfl⟩
  have BW : Below U.heap.size U W := by rw [hW]; exact (Below.refl _ U).alloc (Nat.le_refl _) _
  have HB : Aside (Below w.heap.size w W) := Below.nxt BU BW
  have HRow : Aside (RowI 3 W (.slice av n cv) r) := (h.below BU).below BW
  have k0 : W.cell? ⟨w.heap.size, 0, none⟩ = some (.slice av n cv) := (BW.cell (p := ⟨w.heap.size, 0, none⟩) (by show w.heap.size < _; omega)).trans u0
  have s0 : W.cell? ⟨w.heap.size + 1, 0, none⟩ = some (.int .i64 sk) := (BW.cell (p := ⟨w.heap.size + 1, 0, none⟩) (by show w.heap.size + 1 < _; omega)).trans (cell_of_row _ _ 0 _ _ _ g1)
  have s1 : W.cell? ⟨w.heap.size + 1, 1, none⟩ = some (.int .i64 sa) := (BW.cell (p := ⟨w.heap.size + 1, 1, none⟩) (by show w.heap.size + 1 < _; omega)).trans u1
  have s2 : W.cell? ⟨w.heap.size + 1, 2, none⟩ = some (.int .i64 sb) := (BW.cell (p := ⟨w.heap.size + 1, 2, none⟩) (by show w.heap.size + 1 < _; omega)).trans (cell_of_row _ _ 2 _ _ _ g1)
  have k1 : W.cell? ⟨w.heap.size + 2, 0, none⟩ = some (.int .i64 at0) := by
    have := heap_alloc_new U (.cells #[.int .i64 at0] 3)
    rw [← hW, hsz] at this
    exact cell_of_row _ _ 0 _ _ _ this
  have HU : Aside (U = _) := hU
  have HW : Aside (W = _) := hW
  have HAT : Aside (at0 = Lib.idxOf r sa) := hat
  have HSZ : Aside (U.heap.size = w.heap.size + 2) := hsz
  have hMw : IntKind.i64.wrap ((M : Int) + 1) = (M : Int) + 1 := by rw [IntKind.wrap_i64]; omega
  clear hU hW hat hsz g0 g1 BU BW h hn hl
  go_enter Try.func58, Try.ntmps58
  go_upto_region 1 with fail
  rw [← HU.out]
  go_wp2_with fail
  refine CI.out.mono ?_
  rintro e wz ⟨rfl, hwz⟩
  subst hwz
  clear CI
  go_upto_region 2 with fail
  rw [← HW.out, HSZ.out]
  clear HU HW HSZ u0 u1
  obtain ⟨br, hbr⟩ : ∃ b, b = w.heap.size := ⟨_, rfl⟩
  obtain ⟨bs, hbs⟩ : ∃ b, b = w.heap.size + 1 := ⟨_, rfl⟩
  obtain ⟨ba, hba⟩ : ∃ b, b = w.heap.size + 2 := ⟨_, rfl⟩
  rw [← hba] at k1 ⊢
  rw [← hbs] at s0 s1 s2 ⊢
  rw [← hbr] at k0 ⊢
  clear hba hbs hbr
  have HK : Aside (0 ≤ sk ∧ sk < 10) := hk
  have HS : Aside (n = r.length) := HN.out.1
  obtain ⟨i0, hi0, hz0, hz1, hz2⟩ := info_parts (show (Try.prog.info? 3).map (fun i => (i.zero, i.size, i.bytes)) = some (some (.int .i64 0), 1, 8) by kernel_rfl)
  have hcases : sk = 0 ∨ sk = 1 ∨ sk = 9 ∨ (2 ≤ sk ∧ sk ≤ 8) := by omega
  clear hk
  rcases hcases with rfl | rfl | rfl | hc
  · as_aux_lemma =>
    have HO : Aside ((W.alloc (.cells #[.int .i64 M] 3)).ownsRow w.heap.size 3 1 (.slice (some ⟨W.heap.size, 0, none⟩) 1 1) 1 [.int .i64 M]) := own_one W _ HB.out.size
    have hb1 : Below W.heap.size W (W.alloc (.cells #[.int .i64 M] 3)) := (Below.refl _ W).alloc (Nat.le_refl _) _
    have HR1 : Aside (RowI 3 (W.alloc (.cells #[.int .i64 M] 3)) (.slice av n cv) r) := HRow.out.below hb1
    have HB1 : Aside (Below w.heap.size w (W.alloc (.cells #[.int .i64 M] 3))) := Below.nxt HB.out hb1
    have k0b := (hb1.cell (lt_of_cell k0)).trans k0
    clear s1 s2 k1 HRow HAT hb1 HK
    cases av with
    | none =>
      obtain ⟨rfl, rfl, hr⟩ := HR1.out.bare
      have HRR : Aside (r = []) := hr
      clear hr
      go_wp2_with (at_builtin; refine wpList_append_own_none rfl _ _ 59 rfl w.heap.size 3 i0 1 Try.underlying59 hi0 _ _ _ rfl HO.out rfl ?_)
      go_wp2_with fail
      (try simp only [Exit.inBlock, Exit.then]); refine bodyPost_ret (results_tmp2 rfl _ _ _) rfl ?_
      refine nextTo (r' := (M : Int) :: r) (b := true) (by simp [rowP]) ?_ HB1.out rfl
      rw [HRR.out]
      exact (rowI_own (r := [(M : Int)]) HO.out).1
    | some ad =>
      have HNW : Aside _ := HR1.out.news
      go_wp2_with (at_builtin; refine wpList_append_own _ rfl _ _ 59 rfl w.heap.size 3 i0 (.int .i64 0) 1 8 Try.underlying59 hi0 hz0 hz1 hz2 rfl (by decide) _ _ _ rfl HO.out ad n cv (r.map (Value.int .i64)) rfl ?qc1 ?qc2 ?qc3 ?qc4 ?qc5 ?qc6 ?_)
      case qc1 => have := HN.out; simp; omega
      case qc2 => exact HNW.out
      case qc3 => intro u hu; obtain ⟨y, _, rfl⟩ := List.mem_map.1 hu; rfl
      case qc4 => have := HN.out; unfold maxLen; omega
      case qc5 => have := HN.out; omega
      case qc6 => exact HB1.out.size
      intro v' w' ho hg _
      have HD : Aside (RowI 3 w' v' ((M : Int) :: r) ∧ Below w.heap.size w w') := ⟨(rowI_own (r := (M : Int) :: r) ho).1, HB1.out.grown hg HB1.out.size (fun k hk => (HO.out.lt k hk).1)⟩
      clear ho hg HNW HO HR1 HB1 k0 k0b s0
      go_wp2_with fail
      (try simp only [Exit.inBlock, Exit.then]); refine bodyPost_ret (results_tmp2 rfl _ _ _) rfl ?_
      exact nextTo (b := true) (by simp [rowP]) HD.out.1 HD.out.2 rfl
  · as_aux_lemma =>
    have CC := hid (clone_calls HRow.out (by have := HN.out; omega))
    clear s1 s2 k1 HRow HAT HK
    go_wp2_with fail
    refine CC.out.mono ?_
    rintro e w1 ⟨v1, rfl, ho1, hb1⟩
    have hb2 : Below w1.heap.size w1 (w1.alloc (.cells #[.int .i64 M] 3)) := (Below.refl _ w1).alloc (Nat.le_refl _) _
    have HO : Aside ((w1.alloc (.cells #[.int .i64 M] 3)).ownsRow w.heap.size 3 1 v1 r.length (r.map (Value.int .i64))) := own_mono (own_below ho1 hb2) HB.out.size
    have HB1 : Aside (Below w.heap.size w (w1.alloc (.cells #[.int .i64 M] 3))) := Below.nxt (Below.nxt HB.out hb1) hb2
    have HW6 : Aside (w.heap.size ≤ (w1.alloc (.cells #[.int .i64 M] 3)).heap.size) := HB1.out.size
    clear ho1 hb1 hb2 CC k0 s0
    go_wp2_with (at_builtin; refine wpList_append_own _ rfl _ _ 59 rfl w.heap.size 3 i0 (.int .i64 0) 1 8 Try.underlying59 hi0 hz0 hz1 hz2 rfl (by decide) _ _ _ rfl HO.out ⟨w1.heap.size, 0, none⟩ 1 1 [.int .i64 M] rfl ?qc1 ?qc2 ?qc3 ?qc4 ?qc5 ?qc6 ?_)
    case qc1 => rfl
    case qc2 => exact fun j u => one_cell j u (cell_of_row _ _ 0 _ _ _ (heap_alloc_new w1 (.cells #[.int .i64 M] 3)))
    case qc3 => intro u hu; simp at hu; subst hu; rfl
    case qc4 => have := HN.out; unfold maxLen; omega
    case qc5 => have := HN.out; omega
    case qc6 => exact HW6.out
    intro v' w' ho hg _
    have HD : Aside (RowI 3 w' v' (r ++ [(M : Int)]) ∧ Below w.heap.size w w') := ⟨(rowI_own (n := r.length + 1) (r := r ++ [(M : Int)]) (by rw [List.map_append]; exact ho)).1, HB1.out.grown hg HB1.out.size (fun k hk => (HO.out.lt k hk).1)⟩
    clear ho hg HO HB1 HW6
    go_wp2_with fail
    (try simp only [Exit.inBlock, Exit.then]); refine bodyPost_ret (results_tmp2 rfl _ _ _) rfl ?_
    exact nextTo (b := true) (by simp [rowP]) HD.out.1 HD.out.2 rfl
  · as_aux_lemma =>
    clear s1 s2 k1 HRow HAT HK k0
    go_wp2_with fail
    (try simp only [Exit.inBlock, Exit.then]); refine bodyPost_ret (results_tmp2 rfl _ _ _) rfl ?_
    exact nextTo (r' := []) (b := false) (by simp [rowP]) (rowI_nil _ _) HB.out rfl
  · obtain ⟨hc2, hc8⟩ := hc
    have n0 : ¬ sk = 0 := by omega
    have n1 : ¬ sk = 1 := by omega
    have n9 : ¬ sk = 9 := by omega
    cases hcut : cutAt sa r with
    | none => as_aux_lemma =>
      have hm1 : at0 = -1 := by rw [HAT.out, idxOf_none hcut]
      subst hm1
      have HP : Aside (rowP r (M : Int) ⟨sk, sa, sb⟩ = (r, false)) := by show _ = _; simp [rowP, n0, n1, n9, hcut]
      clear hcut HAT HK s1 s2
      go_wp2_with fail
      (try simp only [Exit.inBlock, Exit.then]); refine bodyPost_ret (results_tmp2 rfl _ _ _) rfl ?_
      exact nextTo (b := false) HP.out HRow.out HB.out rfl
    | some p =>
      obtain ⟨l1, l2⟩ := p
      have hr := (cutAt_some hcut).1
      obtain ⟨q, hq⟩ : ∃ q, q = l1.length := ⟨_, rfl⟩
      have hat : at0 = (q : Int) := by rw [HAT.out, idxOf_cut hcut, hq]
      subst hat
      have hqn : q < n := by rw [HN.out.1, hr, hq]; simp <;> omega
      have x2 : IntKind.i64.wrap ((q : Int) + 1) = (q : Int) + 1 := by rw [IntKind.wrap_i64]; have := HN.out; omega
      have hnq : ¬ (q : Int) < 0 := by omega
      have hb0 : Below W.heap.size W W := Below.refl _ _
      have hbd : Below W.heap.size W W.drew := (Below.refl _ W).drew
      have KS : Aside (∀ X, Below W.heap.size W X → Below W.heap.size W X ∧ X.cell? ⟨br, 0, none⟩ = some (.slice av n cv) ∧ X.cell? ⟨ba, 0, none⟩ = some (.int .i64 (q : Int)) ∧ X.cell? ⟨bs, 1, none⟩ = some (.int .i64 sa)) :=
        fun X hb => ⟨hb, (hb.cell (lt_of_cell k0)).trans k0, (hb.cell (lt_of_cell k1)).trans k1, (hb.cell (lt_of_cell s1)).trans s1⟩
      have HC : Aside (∀ X : World, Below W.heap.size W X → Calls Try.prog 59 #[.slice av n cv] X fun e w' => ∃ v', e = .returned v' ∧ w'.ownsRow X.heap.size 3 1 v' n (r.map (Value.int .i64)) ∧ w'.ownsRow W.heap.size 3 1 v' n (r.map (Value.int .i64)) ∧ Below X.heap.size X w' ∧ Below W.heap.size W w') := fun X hb =>
        (clone_calls (HRow.out.below hb) (by have := HN.out; omega)).mono (fun e w' ⟨v', h1, h2, h3⟩ => ⟨v', h1, by rw [HN.out.1]; exact h2, by rw [HN.out.1]; exact own_mono h2 hb.size, h3, Below.nxt hb h3⟩)
      have CW : Aside (∀ X : World, Below W.heap.size W X → Calls Try.prog 84 #[.pointer (some ⟨br, 0, none⟩), .pointer (some ⟨ba, 0, none⟩)] X fun e w' => ∃ v', e = .returned v' ∧ w'.ownsRow X.heap.size 3 1 v' (l1 ++ l2).length ((l1 ++ l2).map (Value.int .i64)) ∧ w'.ownsRow W.heap.size 3 1 v' (l1 ++ l2).length ((l1 ++ l2).map (Value.int .i64)) ∧ Below X.heap.size X w' ∧ Below W.heap.size W w') := fun X hb =>
        (without_calls (.slice av n cv) r l1 l2 sa br ba X (HRow.out.below hb) hr (by have := HN.out; omega) (KS.out X hb).2.1 (by rw [← hq]; exact (KS.out X hb).2.2.1)).mono (fun e w' ⟨v', h1, h2, h3⟩ => ⟨v', h1, h2, own_mono h2 hb.size, h3, Below.nxt hb h3⟩)
      have HCUT : Aside (cutAt sa r = some (l1, l2) ∧ r = l1 ++ sa :: l2 ∧ q = l1.length ∧ (l1 ++ l2).length ≤ 500) := ⟨hcut, hr, hq, by have := HN.out; have e := congrArg List.length hr; simp at e ⊢; omega⟩
      have hks : sk = 2 ∨ sk = 3 ∨ sk = 4 ∨ sk = 5 ∨ sk = 6 ∨ sk = 7 ∨ sk = 8 := by omega
      clear hcut hr hq HAT HK n0 n1 n9 hc2 hc8
      rcases hks with rfl | rfl | rfl | rfl | rfl | rfl | rfl
      · as_aux_lemma =>
        have HI : Aside (∀ (v1 : Value) (X : World) (vb : Nat) (vcur : Array Value), X.ownsRow W.heap.size 3 1 v1 n (r.map (Value.int .i64)) → X.heap[vb]? = some (.cells vcur 3 (0, 0)) → vcur[0]? = some (.int .i64 (M : Int)) → v1.ownBlock ≠ some vb → Below W.heap.size W X →
            Calls Try.prog 86 #[v1, .int .i64 (q : Int), .slice (some ⟨vb, 0, none⟩) 1 1] X fun e w' => ∃ v', e = .returned v' ∧ RowI 3 w' v' (l1 ++ (M : Int) :: sa :: l2) ∧ Below W.heap.size W w') := fun v1 X vb vcur h1 h2 h3 h4 h5 => by
          have hne : r ≠ [] := by rw [HCUT.out.2.1]; simp
          have := insert_calls2 (i := q) (x := (M : Int)) h1 hne (by have := HN.out; omega) (by have := HN.out; omega) h2 h3 h5.size h4
          refine this.mono (fun e w' ⟨v', h1, h2, h3⟩ => ⟨v', h1, ?_, h5.trans h3⟩)
          rw [HCUT.out.2.1, HCUT.out.2.2.1, List.take_left, List.drop_left] at h2
          exact h2
        have hbq : Below W.heap.size W ((W.alloc (.cells #[.int .i64 (M : Int)] 3)).drew) := (below_alc W _).drew
        clear s2 CW
        go_upto_region 14 with fail
        go_region_held (fun X => Below W.heap.size W X ∧ X.cell? ⟨br, 0, none⟩ = some (.slice av n cv) ∧ X.cell? ⟨ba, 0, none⟩ = some (.int .i64 (q : Int)) ∧ X.cell? ⟨bs, 1, none⟩ = some (.int .i64 sa)) (first | assumption | exact KS.out _ hbq | exact KS.out _ hb0 | exact KS.out _ hbd | exact KS.out _ (Below.nxt hbd (below_alc _ _)) | exact KS.out _ (Below.nxt hB1 (below_alc _ _)))
          (first
            | (go_at_call 59; refine Calls.mono (HC.out _ hbq) ?_; rintro e w1 ⟨v1, rfl, hoX, ho1, hbX, hB1⟩; have SS1 := KS.out _ hB1)
            | (go_at_call 59; refine Calls.mono (HC.out _ hbd) ?_; rintro e w1 ⟨v1, rfl, hoX, ho1, hbX, hB1⟩; have SS1 := KS.out _ hB1)
            | (go_at_call 86; refine Calls.mono (HI.out _ _ _ _ (own_below ho1 (below_alc _ _)) (heap_alloc_new w1 _) rfl (fun e => Nat.lt_irrefl _ ((hoX.lt _ e).2)) (Below.nxt hB1 (below_alc _ _))) ?_; rintro e w2 ⟨v2, rfl, hr2, hB2⟩; have SS2 := KS.out _ hB2)
            | (go_at_call 86; refine Calls.mono (HI.out _ _ _ _ ho1 ((hbX.block W.heap.size (by simp)).trans (heap_alloc_new W (.cells #[.int .i64 (M : Int)] 3))) rfl (fun e => absurd ((hoX.lt _ e).1) (by simp <;> omega)) hB1) ?_; rintro e w2 ⟨v2, rfl, hr2, hB2⟩; have SS2 := KS.out _ hB2))
        all_goals (
          have HD : Aside _ := And.intro hr2 hB2
          clear SS1 SS2 hr2 hB2 hoX ho1 hbX hB1 hbq HI HC KS k0 k1 s0 s1 hb0 hbd
          go_wp2_with fail
          (try simp only [Exit.inBlock, Exit.then]); refine bodyPost_ret (results_tmp2 rfl _ _ _) rfl ?_
          exact nextTo (b := true) (by simp [rowP, HCUT.out.1]) HD.out.1 (Below.nxt HB.out HD.out.2) rfl)
      · as_aux_lemma =>
        have HI : Aside (∀ (v1 : Value) (X : World) (vb : Nat) (vcur : Array Value), X.ownsRow W.heap.size 3 1 v1 n (r.map (Value.int .i64)) → X.heap[vb]? = some (.cells vcur 3 (0, 0)) → vcur[0]? = some (.int .i64 (M : Int)) → v1.ownBlock ≠ some vb → Below W.heap.size W X →
            Calls Try.prog 86 #[v1, .int .i64 ((q : Int) + 1), .slice (some ⟨vb, 0, none⟩) 1 1] X fun e w' => ∃ v', e = .returned v' ∧ RowI 3 w' v' (l1 ++ sa :: (M : Int) :: l2) ∧ Below W.heap.size W w') := fun v1 X vb vcur h1 h2 h3 h4 h5 => by
          have hne : r ≠ [] := by rw [HCUT.out.2.1]; simp
          have := insert_calls2 (i := (q + 1)) (x := (M : Int)) h1 hne (by have := HN.out; omega) (by have := HN.out; omega) h2 h3 h5.size h4
          refine this.mono (fun e w' ⟨v', h1, h2, h3⟩ => ⟨v', h1, ?_, h5.trans h3⟩)
          rw [HCUT.out.2.1, HCUT.out.2.2.1, show l1 ++ sa :: l2 = (l1 ++ [sa]) ++ l2 by simp, show l1.length + 1 = (l1 ++ [sa]).length by simp, List.take_left, List.drop_left] at h2
          simpa using h2
        have hbq : Below W.heap.size W ((W.alloc (.cells #[.int .i64 (M : Int)] 3)).drew) := (below_alc W _).drew
        clear s2 CW
        go_upto_region 16 with fail
        go_region_held (fun X => Below W.heap.size W X ∧ X.cell? ⟨br, 0, none⟩ = some (.slice av n cv) ∧ X.cell? ⟨ba, 0, none⟩ = some (.int .i64 (q : Int)) ∧ X.cell? ⟨bs, 1, none⟩ = some (.int .i64 sa)) (first | assumption | exact KS.out _ hbq | exact KS.out _ hb0 | exact KS.out _ hbd | exact KS.out _ (Below.nxt hbd (below_alc _ _)) | exact KS.out _ (Below.nxt hB1 (below_alc _ _)))
          (first
            | (go_at_call 59; refine Calls.mono (HC.out _ hbq) ?_; rintro e w1 ⟨v1, rfl, hoX, ho1, hbX, hB1⟩; have SS1 := KS.out _ hB1)
            | (go_at_call 59; refine Calls.mono (HC.out _ hbd) ?_; rintro e w1 ⟨v1, rfl, hoX, ho1, hbX, hB1⟩; have SS1 := KS.out _ hB1)
            | (go_at_call 86; refine Calls.mono (HI.out _ _ _ _ (own_below ho1 (below_alc _ _)) (heap_alloc_new w1 _) rfl (fun e => Nat.lt_irrefl _ ((hoX.lt _ e).2)) (Below.nxt hB1 (below_alc _ _))) ?_; rintro e w2 ⟨v2, rfl, hr2, hB2⟩; have SS2 := KS.out _ hB2)
            | (go_at_call 86; refine Calls.mono (HI.out _ _ _ _ ho1 ((hbX.block W.heap.size (by simp)).trans (heap_alloc_new W (.cells #[.int .i64 (M : Int)] 3))) rfl (fun e => absurd ((hoX.lt _ e).1) (by simp <;> omega)) hB1) ?_; rintro e w2 ⟨v2, rfl, hr2, hB2⟩; have SS2 := KS.out _ hB2))
        all_goals (
          have HD : Aside _ := And.intro hr2 hB2
          clear SS1 SS2 hr2 hB2 hoX ho1 hbX hB1 hbq HI HC KS k0 k1 s0 s1 hb0 hbd
          go_wp2_with fail
          (try simp only [Exit.inBlock, Exit.then]); refine bodyPost_ret (results_tmp2 rfl _ _ _) rfl ?_
          exact nextTo (b := true) (by simp [rowP, HCUT.out.1]) HD.out.1 (Below.nxt HB.out HD.out.2) rfl)
      · as_aux_lemma =>
        have C := hid (CW.out W hb0)
        clear HC s2 CW KS hbd hb0
        go_wp2_with fail
        refine C.out.mono ?_
        rintro e w1 ⟨v1, rfl, _, ho1, _, hB1⟩
        have HD : Aside (RowI 3 w1 v1 (l1 ++ l2) ∧ Below W.heap.size W w1) := ⟨(rowI_own ho1).1, hB1⟩
        clear ho1 hB1 C
        go_wp2_with fail
        (try simp only [Exit.inBlock, Exit.then]); refine bodyPost_ret (results_tmp2 rfl _ _ _) rfl ?_
        exact nextTo (b := false) (by simp [rowP, HCUT.out.1]) HD.out.1 (Below.nxt HB.out HD.out.2) rfl
      · as_aux_lemma =>
        have hbq : Below W.heap.size W ((W.alloc (.cells #[.int .i64 sa] 3)).drew) := (below_alc W _).drew
        have HOX : Aside (((W.alloc (.cells #[.int .i64 sa] 3)).drew).ownsRow W.heap.size 3 1 (.slice (some ⟨W.heap.size, 0, none⟩) 1 1) 1 [.int .i64 sa]) := own_one W sa (Nat.le_refl _)
        clear HC s2
        go_upto_region 20 with fail
        go_region_held_law (fun X => Below W.heap.size W X ∧ X.cell? ⟨br, 0, none⟩ = some (.slice av n cv) ∧ X.cell? ⟨ba, 0, none⟩ = some (.int .i64 (q : Int)) ∧ X.cell? ⟨bs, 1, none⟩ = some (.int .i64 sa)) (first | assumption | exact KS.out _ hbq | exact KS.out _ hb0 | exact KS.out _ hbd | exact KS.out _ (Below.nxt hbd (below_alc _ _)) | exact KS.out _ (Below.nxt hB1 (below_alc _ _)))
          (first
            | (go_at_call 84; refine Calls.mono (CW.out _ hbq) ?_; rintro e w1 ⟨v1, rfl, hoX, ho1, hbX, hB1⟩; have SS1 := KS.out _ hB1)
            | (go_at_call 84; refine Calls.mono (CW.out _ hbd) ?_; rintro e w1 ⟨v1, rfl, hoX, ho1, hbX, hB1⟩; have SS1 := KS.out _ hB1)
            | (refine step_app (w0 := W) (by rfl) _ _ (by rfl) _ 1 [sa] (by rfl) (own_below HOX.out hbX) hB1 _ (l1 ++ l2) (by rfl) (rowI_own hoX).1 (by have := HCUT.out.2.2.2; omega) ?_; intro v2 w2 HD; have SS2 := KS.out _ HD.out.2)
            | (refine step_app (w0 := W) (by rfl) _ _ (by rfl) _ 1 [sa] (by rfl) (own_one w1 sa hB1.size) (Below.nxt hB1 (below_alc _ _)) _ (l1 ++ l2) (by rfl) ((rowI_own hoX).1.below (below_alc _ _)) (by have := HCUT.out.2.2.2; omega) ?_; intro v2 w2 HD; have SS2 := KS.out _ HD.out.2))
        all_goals (
          clear SS1 SS2 hoX ho1 hbX hB1 hbq HOX CW KS k0 k1 s0 s1 hb0 hbd
          go_wp2_with fail
          (try simp only [Exit.inBlock, Exit.then]); refine bodyPost_ret (results_tmp2 rfl _ _ _) rfl ?_
          simp only [Array.getD_eq_getD_getElem?, List.getElem?_toArray, List.getElem?_set, List.length_set, List.length_cons, Nat.reduceEqDiff, if_true, if_false]
          exact nextTo (b := false) (by simp [rowP, HCUT.out.1]) HD.out.1 (Below.nxt HB.out HD.out.2) rfl)
      · as_aux_lemma =>
        have hbq : Below W.heap.size W ((W.alloc (.cells #[.int .i64 sa] 3)).drew) := (below_alc W _).drew
        have HOX : Aside (((W.alloc (.cells #[.int .i64 sa] 3)).drew).ownsRow W.heap.size 3 1 (.slice (some ⟨W.heap.size, 0, none⟩) 1 1) 1 [.int .i64 sa]) := own_one W sa (Nat.le_refl _)
        clear HC s2
        go_upto_region 22 with fail
        go_region_held_law (fun X => Below W.heap.size W X ∧ X.cell? ⟨br, 0, none⟩ = some (.slice av n cv) ∧ X.cell? ⟨ba, 0, none⟩ = some (.int .i64 (q : Int)) ∧ X.cell? ⟨bs, 1, none⟩ = some (.int .i64 sa)) (first | assumption | exact KS.out _ hbq | exact KS.out _ hb0 | exact KS.out _ hbd | exact KS.out _ (Below.nxt hbd (below_alc _ _)) | exact KS.out _ (Below.nxt hB1 (below_alc _ _)))
          (first
            | (go_at_call 84; refine Calls.mono (CW.out _ hbq) ?_; rintro e w1 ⟨v1, rfl, hoX, ho1, hbX, hB1⟩; have SS1 := KS.out _ hB1)
            | (go_at_call 84; refine Calls.mono (CW.out _ hbd) ?_; rintro e w1 ⟨v1, rfl, hoX, ho1, hbX, hB1⟩; have SS1 := KS.out _ hB1)
            | (refine step_app (w0 := W) (by rfl) _ _ (by rfl) _ (l1 ++ l2).length (l1 ++ l2) (by rfl) ho1 hB1 _ [sa] (by rfl) ((rowI_own (r := [sa]) HOX.out).1.below hbX) (by have := HCUT.out.2.2.2; simp only [List.length_singleton]; omega) ?_; intro v2 w2 HD; have SS2 := KS.out _ HD.out.2)
            | (refine step_app (w0 := W) (by rfl) _ _ (by rfl) _ (l1 ++ l2).length (l1 ++ l2) (by rfl) (own_below ho1 (below_alc _ _)) (Below.nxt hB1 (below_alc _ _)) _ [sa] (by rfl) ((rowI_own (r := [sa]) (own_one w1 sa (Nat.le_refl _))).1) (by have := HCUT.out.2.2.2; simp only [List.length_singleton]; omega) ?_; intro v2 w2 HD; have SS2 := KS.out _ HD.out.2))
        all_goals (
          clear SS1 SS2 hoX ho1 hbX hB1 hbq HOX CW KS k0 k1 s0 s1 hb0 hbd
          go_wp2_with fail
          (try simp only [Exit.inBlock, Exit.then]); refine bodyPost_ret (results_tmp2 rfl _ _ _) rfl ?_
          simp only [Array.getD_eq_getD_getElem?, List.getElem?_toArray, List.getElem?_set, List.length_set, List.length_cons, Nat.reduceEqDiff, if_true, if_false]
          exact nextTo (b := false) (by simp [rowP, HCUT.out.1]) HD.out.1 (Below.nxt HB.out HD.out.2) rfl)
      · as_aux_lemma =>
        by_cases hab : sa = sb
        · subst hab
          clear HC CW KS hb0 hbd
          go_wp2_with fail
          (try simp only [Exit.inBlock, Exit.then]); refine bodyPost_ret (results_tmp2 rfl _ _ _) rfl ?_
          exact nextTo (b := false) (by simp [rowP, HCUT.out.1]) HRow.out HB.out rfl
        · have CT := hid (contains_calls HRow.out (by have := HN.out; omega) sb)
          have HAB : Aside (¬ sa = sb) := hab
          cases hcb : cutAt sb (l1 ++ l2) with
          | none =>
            have hcn : r.contains sb = false := by
              have h1 := cutAt_none hcb
              rw [HCUT.out.2.1]
              simp at h1 ⊢
              exact ⟨h1.1, fun e => hab e.symm, h1.2⟩
            rw [hcn] at CT
            have HP : Aside (rowP r (M : Int) ⟨7, sa, sb⟩ = (r, false)) := by show _ = _; simp [rowP, HCUT.out.1, hab, hcb]
            clear HC CW KS hb0 hbd hcb hcn
            go_wp2_with fail
            refine CT.out.mono ?_
            rintro e wz ⟨rfl, hwz⟩
            subst hwz
            clear CT
            go_wp2_with fail
            (try simp only [Exit.inBlock, Exit.then]); refine bodyPost_ret (results_tmp2 rfl _ _ _) rfl ?_
            exact nextTo (b := false) HP.out HRow.out HB.out rfl
          | some p =>
            obtain ⟨m1, m2⟩ := p
            have hcb' := (cutAt_some hcb).1
            have hcn : r.contains sb = true := by
              have h1 : sb ∈ l1 ++ l2 := by rw [hcb']; simp
              rw [HCUT.out.2.1]
              simp at h1 ⊢
              rcases h1 with h1 | h1
              · exact Or.inl h1
              · exact Or.inr (Or.inr h1)
            rw [hcn] at CT
            obtain ⟨mk, hmk⟩ : ∃ mk, mk = m1.length := ⟨_, rfl⟩
            have hml : mk < (l1 ++ l2).length := by rw [hcb', hmk]; simp <;> omega
            have HP : Aside (rowP r (M : Int) ⟨7, sa, sb⟩ = (m1 ++ sa :: sb :: m2, false)) := by show _ = _; simp [rowP, HCUT.out.1, hab, hcb]
            have C := hid (CW.out W hb0)
            have HIx : Aside (Lib.idxOf (l1 ++ l2) sb = (mk : Int)) := by show _ = _; rw [idxOf_cut hcb, hmk]
            have HIn : Aside (∀ (v1 : Value) (w1 : World), w1.ownsRow W.heap.size 3 1 v1 (l1 ++ l2).length ((l1 ++ l2).map (Value.int .i64)) → Below W.heap.size W w1 →
                Calls Try.prog 86 #[v1, .int .i64 (mk : Int), .slice (some ⟨w1.heap.size, 0, none⟩) 1 1] (w1.alloc (.cells #[.int .i64 sa] 3)) fun e w' => ∃ v', e = .returned v' ∧ RowI 3 w' v' (m1 ++ sa :: sb :: m2) ∧ Below W.heap.size W w') := fun v1 w1 h1 h5 => by
              have hne : l1 ++ l2 ≠ [] := by rw [hcb']; simp
              have h5' := Below.nxt h5 (below_alc w1 (.cells #[.int .i64 sa] 3))
              have := insert_calls2 (i := mk) (x := sa) (own_below h1 (below_alc w1 (.cells #[.int .i64 sa] 3))) hne (by have := HCUT.out.2.2.2; omega) (by omega) (heap_alloc_new w1 _) rfl h5'.size (fun e => Nat.lt_irrefl _ ((h1.lt _ e).2))
              refine this.mono (fun e w' ⟨v', h1, h2, h3⟩ => ⟨v', h1, ?_, h5'.trans h3⟩)
              rw [hcb', hmk, List.take_left, List.drop_left] at h2
              exact h2
            have HMW : Aside (mk ≤ 500) := by have := HCUT.out.2.2.2; show mk ≤ 500; omega
            clear HC CW hb0 hbd hcb hcb' hcn hmk hml
            go_wp2_with fail
            refine CT.out.mono ?_
            rintro e wz ⟨rfl, hwz⟩
            subst hwz
            clear CT
            go_wp2_with fail
            refine C.out.mono ?_
            rintro e w1 ⟨v1, rfl, _, ho1, _, hB1⟩
            have CI := hid (index_calls (rowI_own ho1).1 (by have := HCUT.out.2.2.2; omega) sb)
            rw [HIx.out] at CI
            have CN := hid (HIn.out v1 w1 ho1 hB1)
            have t0 := (hB1.cell (lt_of_cell s0)).trans s0
            have t1 := (hB1.cell (lt_of_cell s1)).trans s1
            have t2 := (hB1.cell (lt_of_cell s2)).trans s2
            have x3 : IntKind.i64.wrap ((mk : Int) + 1) = (mk : Int) + 1 := by rw [IntKind.wrap_i64]; have := HMW.out; omega
            clear HIn HIx C ho1 hB1 s0 s1 s2 k0 k1 KS
            go_wp2_with fail
            refine CI.out.mono ?_
            rintro e wy ⟨rfl, hwy⟩
            subst hwy
            clear CI
            go_wp2_with fail
            refine CN.out.mono ?_
            rintro e w2 ⟨v2, rfl, hr2, hB2⟩
            have HD : Aside _ := And.intro hr2 hB2
            clear CN hr2 hB2 t0 t1 t2
            go_wp2_with fail
            (try simp only [Exit.inBlock, Exit.then]); refine bodyPost_ret (results_tmp2 rfl _ _ _) rfl ?_
            exact nextTo (b := false) HP.out HD.out.1 (Below.nxt HB.out HD.out.2) rfl
      · as_aux_lemma =>
        by_cases hab : sa = sb
        · subst hab
          clear HC CW KS hb0 hbd
          go_wp2_with fail
          (try simp only [Exit.inBlock, Exit.then]); refine bodyPost_ret (results_tmp2 rfl _ _ _) rfl ?_
          exact nextTo (b := false) (by simp [rowP, HCUT.out.1]) HRow.out HB.out rfl
        · have CT := hid (contains_calls HRow.out (by have := HN.out; omega) sb)
          have HAB : Aside (¬ sa = sb) := hab
          cases hcb : cutAt sb (l1 ++ l2) with
          | none =>
            have hcn : r.contains sb = false := by
              have h1 := cutAt_none hcb
              rw [HCUT.out.2.1]
              simp at h1 ⊢
              exact ⟨h1.1, fun e => hab e.symm, h1.2⟩
            rw [hcn] at CT
            have HP : Aside (rowP r (M : Int) ⟨8, sa, sb⟩ = (r, false)) := by show _ = _; simp [rowP, HCUT.out.1, hab, hcb]
            clear HC CW KS hb0 hbd hcb hcn
            go_wp2_with fail
            refine CT.out.mono ?_
            rintro e wz ⟨rfl, hwz⟩
            subst hwz
            clear CT
            go_wp2_with fail
            (try simp only [Exit.inBlock, Exit.then]); refine bodyPost_ret (results_tmp2 rfl _ _ _) rfl ?_
            exact nextTo (b := false) HP.out HRow.out HB.out rfl
          | some p =>
            obtain ⟨m1, m2⟩ := p
            have hcb' := (cutAt_some hcb).1
            have hcn : r.contains sb = true := by
              have h1 : sb ∈ l1 ++ l2 := by rw [hcb']; simp
              rw [HCUT.out.2.1]
              simp at h1 ⊢
              rcases h1 with h1 | h1
              · exact Or.inl h1
              · exact Or.inr (Or.inr h1)
            rw [hcn] at CT
            obtain ⟨mk, hmk⟩ : ∃ mk, mk = m1.length := ⟨_, rfl⟩
            have hml : mk < (l1 ++ l2).length := by rw [hcb', hmk]; simp <;> omega
            have HP : Aside (rowP r (M : Int) ⟨8, sa, sb⟩ = (m1 ++ sb :: sa :: m2, false)) := by show _ = _; simp [rowP, HCUT.out.1, hab, hcb]
            have C := hid (CW.out W hb0)
            have HIx : Aside (Lib.idxOf (l1 ++ l2) sb = (mk : Int)) := by show _ = _; rw [idxOf_cut hcb, hmk]
            have HIn : Aside (∀ (v1 : Value) (w1 : World), w1.ownsRow W.heap.size 3 1 v1 (l1 ++ l2).length ((l1 ++ l2).map (Value.int .i64)) → Below W.heap.size W w1 →
                Calls Try.prog 86 #[v1, .int .i64 ((mk : Int) + 1), .slice (some ⟨w1.heap.size, 0, none⟩) 1 1] (w1.alloc (.cells #[.int .i64 sa] 3)) fun e w' => ∃ v', e = .returned v' ∧ RowI 3 w' v' (m1 ++ sb :: sa :: m2) ∧ Below W.heap.size W w') := fun v1 w1 h1 h5 => by
              have hne : l1 ++ l2 ≠ [] := by rw [hcb']; simp
              have h5' := Below.nxt h5 (below_alc w1 (.cells #[.int .i64 sa] 3))
              have := insert_calls2 (i := (mk + 1)) (x := sa) (own_below h1 (below_alc w1 (.cells #[.int .i64 sa] 3))) hne (by have := HCUT.out.2.2.2; omega) (by omega) (heap_alloc_new w1 _) rfl h5'.size (fun e => Nat.lt_irrefl _ ((h1.lt _ e).2))
              refine this.mono (fun e w' ⟨v', h1, h2, h3⟩ => ⟨v', h1, ?_, h5'.trans h3⟩)
              rw [hcb', hmk, show m1 ++ sb :: m2 = (m1 ++ [sb]) ++ m2 by simp, show m1.length + 1 = (m1 ++ [sb]).length by simp, List.take_left, List.drop_left] at h2
              simpa using h2
            have HMW : Aside (mk ≤ 500) := by have := HCUT.out.2.2.2; show mk ≤ 500; omega
            clear HC CW hb0 hbd hcb hcb' hcn hmk hml
            go_wp2_with fail
            refine CT.out.mono ?_
            rintro e wz ⟨rfl, hwz⟩
            subst hwz
            clear CT
            go_wp2_with fail
            refine C.out.mono ?_
            rintro e w1 ⟨v1, rfl, _, ho1, _, hB1⟩
            have CI := hid (index_calls (rowI_own ho1).1 (by have := HCUT.out.2.2.2; omega) sb)
            rw [HIx.out] at CI
            have CN := hid (HIn.out v1 w1 ho1 hB1)
            have t0 := (hB1.cell (lt_of_cell s0)).trans s0
            have t1 := (hB1.cell (lt_of_cell s1)).trans s1
            have t2 := (hB1.cell (lt_of_cell s2)).trans s2
            have x3 : IntKind.i64.wrap ((mk : Int) + 1) = (mk : Int) + 1 := by rw [IntKind.wrap_i64]; have := HMW.out; omega
            clear HIn HIx C ho1 hB1 s0 s1 s2 k0 k1 KS
            go_wp2_with fail
            refine CI.out.mono ?_
            rintro e wy ⟨rfl, hwy⟩
            subst hwy
            clear CI
            go_wp2_with fail
            refine CN.out.mono ?_
            rintro e w2 ⟨v2, rfl, hr2, hB2⟩
            have HD : Aside _ := And.intro hr2 hB2
            clear CN hr2 hB2 t0 t1 t2
            go_wp2_with fail
            (try simp only [Exit.inBlock, Exit.then]); refine bodyPost_ret (results_tmp2 rfl _ _ _) rfl ?_
            exact nextTo (b := false) HP.out HD.out.1 (Below.nxt HB.out HD.out.2) rfl
end Go.Proofs.Ytglgmkikegbchaa
