/- spec.Permuted: true of two lists of which one is a permutation of the other. -/
import Derived.Test.YtglgmkikegbchaaGreatCount
import Derived.Test.YtglgmkikegbchaaGreatBase
import Derived.Test.YtglgmkikegbchaaGreatWhole0
import Derived.BigRegion
namespace Go.Proofs.YtglgmkikegbchaaGreat
open Go.RowKit Go.Sort Go.Maps

def okIt (x : It) : Prop := (Lit.int .i64 x.1).wf = true ∧ (Lit.int .i64 x.2).wf = true
theorem laidOut : laidOutB Tryz.prog = true := by kernel_rfl
theorem lawIt : Keyed Tryz.prog 49 := Keyed.of_law (deep_law_laid laidOut (m := 2) (by omega) (of_decide_eq_true (by kernel_rfl)) (by kernel_rfl) (by kernel_rfl))
theorem vIt_inj (x y : It) (h : vIt x = vIt y) : x = y := by
  obtain ⟨a, b⟩ := x
  obtain ⟨c, d⟩ := y
  simp [vIt] at h
  exact Prod.ext h.1 h.2
theorem keyOf_it (x : It) (h : okIt x) : ∃ l, keyOf Tryz.prog 49 (vIt x) = some l := by
  obtain ⟨a, b⟩ := x
  obtain ⟨h1, h2⟩ := h
  dsimp only at h1 h2
  unfold keyOf
  simp only [Tryz.underlying49]
  rw [if_pos (by kernel_rfl)]
  obtain ⟨m, hm⟩ : ∃ m, Tryz.prog.types.size = m + 1 := ⟨Tryz.prog.types.size - 1, by kernel_rfl⟩
  rw [hm]
  unfold Program.keyLits
  simp only [Tryz.underlying49, Value.cells]
  rw [if_pos ⟨by kernel_rfl, by kernel_rfl⟩]
  have c1 : Tryz.prog.cellsOf 2 = 1 := by kernel_rfl
  have hne : (Tryz.prog.types.size == 1) = false := by kernel_rfl
  have hm0 : m ≠ 0 := fun h => by rw [hm, h] at hne; exact absurd hne (by decide)
  obtain ⟨n, rfl⟩ : ∃ n, m = n + 1 := ⟨m - 1, by omega⟩
  simp [c1, Program.keyLits, Tryz.underlying2, h1, h2]
theorem zeroInt (u : World) : (zeroValue 3).run Tryz.prog u = .ok (.int .i64 0) u := by kernel_rfl
def inR (d : Array It) : Prop := ∀ i, i < d.size → okIt d[i]!

/-- How often an element stands in a list. -/
def cntI (l : List It) (y : It) : Int := (l.count y : Nat)
theorem cntI_snoc (l : List It) (x y : It) : cntI (l ++ [x]) y = if y = x then cntI l x + 1 else cntI l y := by
  unfold cntI
  rw [List.count_append]
  by_cases e : y = x
  · subst e; simp
  · have e' : ¬ x = y := fun h => e h.symm
    simp [e, e']
theorem cntI_le (l : List It) (y : It) : 0 ≤ cntI l y ∧ cntI l y ≤ l.length := ⟨by unfold cntI; omega, by unfold cntI; have := List.count_le_length (a := y) (l := l); omega⟩
theorem take_snoc {d : Array It} {i : Nat} (hi : i < d.size) : d.toList.take (i + 1) = d.toList.take i ++ [d[i]!] := by
  rw [List.take_succ_eq_append_getElem (by simpa using hi), getElem!_pos d i hi]; rfl

theorem cntI_less (D l : List It) (x y : It) : cntI D y - cntI (l ++ [x]) y = if y = x then cntI D x - cntI l x - 1 else cntI D y - cntI l y := by
  rw [cntI_snoc]
  by_cases e : y = x
  · subst e; simp; omega
  · simp [e]

set_option maxHeartbeats 8000000 in
set_option maxRecDepth 1000000 in
theorem permuted_calls (a a' : Option Addr) (cap cap' n : Nat) (d d' : Array It) (w : World) (h : Rd2 w a d) (h' : Rd2 w a' d') (hn : d.size = n) (hsz : n ≤ 2000) (hr : inR d) (hp : d'.toList.Perm d.toList) :
    Calls Tryz.prog 46 #[.slice a n cap, .slice a' n cap'] w fun e w' => e = .returned (.bool true) ∧ Below w.heap.size w w' := by
  have hn' : d'.size = n := by have := hp.length_eq; simp at this; omega
  have hr' : inR d' := fun i hi => by
    have hm : d'[i]! ∈ d'.toList := by rw [getElem!_pos d' i hi]; simp
    obtain ⟨j, hj, e⟩ := List.mem_iff_getElem.1 (hp.mem_iff.1 hm)
    have hj' : j < d.size := by simpa using hj
    have := hr j hj'
    rw [getElem!_pos d j hj'] at this
    rw [← e]
    simpa using this
  have H : Aside (Rd2 w a d ∧ d.size = n ∧ inR d) := ⟨h, hn, hr⟩
  have H' : Aside (Rd2 w a' d' ∧ d'.size = n ∧ inR d') := ⟨h', hn', hr'⟩
  have HP : Aside (∀ y, cntI d.toList y - cntI d'.toList y = 0) := fun y => by unfold cntI; rw [hp.count_eq]; omega
  have mixed : Tryz.prog.follows .mixedOrders = true := by kernel_rfl
  have hmm := @run_makeMap Tryz.prog
  clear h h' hn hn' hr hr' hp
  go_enter Tryz.func46, Tryz.ntmps46
  have M0 : Aside (CM vIt okIt (w.alloc (.map #[] 0)) w.heap.size (cntI []) ∧ Below w.heap.size w (w.alloc (.map #[] 0))) := ⟨cm_made w, below_alloc _ _⟩
  go_wp2_with fail
  go_loopg [15] n (fun g vi wr => ∃ i : Nat, vi = .int .i64 i ∧ i ≤ n ∧ n - i ≤ g ∧ Aside (CM vIt okIt wr w.heap.size (cntI (d.toList.take i)) ∧ Below w.heap.size w wr))
  case atStart => exact ⟨0, rfl, Nat.zero_le _, by omega, M0⟩
  case round =>
    obtain ⟨i, rfl, hin, hg, HM⟩ := hrel
    by_cases hlt : i < n
    · have hltz : (i : Int) < (n : Int) := by omega
      obtain ⟨blk, off, rfl, hbl, hc⟩ := H.out.1 (by rw [H.out.2.1]; omega)
      obtain ⟨⟨x1, x2⟩, hx⟩ : ∃ x : It, x = d[i]! := ⟨_, rfl⟩
      obtain ⟨c1, c2⟩ := hc i (by rw [H.out.2.1]; omega)
      rw [← hx] at c1 c2
      dsimp only at c1 c2
      have q1 := (HM.out.2.cell (p := ⟨blk, off + i * 2, none⟩) hbl).trans c1
      have q2 := (HM.out.2.cell (p := ⟨blk, off + i * 2 + 1, none⟩) hbl).trans c2
      obtain ⟨V, hV⟩ : ∃ V, V = (wr.alloc (.cells #[.int .i64 x1, .int .i64 x2] 49)).drew := ⟨_, rfl⟩
      have hlt2 := HM.out.1.lt
      have hVb : ∀ j, j < wr.heap.size → V.heap[j]? = wr.heap[j]? := fun j hj => by rw [hV]; exact heap_alloc_old _ _ hj
      have CV : CM vIt okIt V w.heap.size (cntI (d.toList.take i)) := HM.out.1.of_block (hVb _ hlt2)
      have okx : okIt (x1, x2) := by rw [hx]; exact H.out.2.2 i (by rw [H.out.2.1]; omega)
      obtain ⟨st, V1, l1, me, l2, g1, z1, hs⟩ := cm_step lawIt Tryz.underlying113 zeroInt vIt_inj keyOf_it CV (x1, x2) okx
      obtain ⟨V2, es, CV2, g2, z2⟩ := hs (cntI (d.toList.take i) (x1, x2) + 1)
      have hcl := cntI_le (d.toList.take i) (x1, x2)
      have hll : (d.toList.take i).length ≤ 2000 := by rw [List.length_take]; omega
      obtain ⟨C, hC⟩ : ∃ C, C = cntI (d.toList.take i) (x1, x2) := ⟨_, rfl⟩
      rw [← hC] at l1 me l2 es hcl
      have hw1 : IntKind.i64.wrap (C + 1) = C + 1 := by rw [IntKind.wrap_i64]; omega
      have szV : V.heap.size = wr.heap.size + 1 := by rw [hV]; simp
      have t7 : V.cell? ⟨wr.heap.size, 0, none⟩ = some (.int .i64 x1) := by rw [hV]; simp [go_sem]
      have t7' : V.cell? ⟨wr.heap.size, 1, none⟩ = some (.int .i64 x2) := by rw [hV]; simp [go_sem]
      have t8 := (kept_cell g1 (p := ⟨wr.heap.size, 0, none⟩) (by dsimp only; omega) (by simp; omega)).trans t7
      have t8' := (kept_cell g1 (p := ⟨wr.heap.size, 1, none⟩) (by dsimp only; omega) (by simp; omega)).trans t7'
      have HN : Aside (CM vIt okIt V2 w.heap.size (cntI (d.toList.take (i + 1))) ∧ Below w.heap.size w V2) := by
        refine ⟨?_, ?_⟩
        · rw [take_snoc (by rw [H.out.2.1]; omega), ← hx, show cntI (d.toList.take i ++ [(x1, x2)]) = fun y => if y = (x1, x2) then cntI (d.toList.take i) (x1, x2) + 1 else cntI (d.toList.take i) y from funext (fun y => cntI_snoc _ _ _)]
          exact CV2
        · have b1 : Below w.heap.size w V := by rw [hV]; exact (HM.out.2.alloc (by omega) _).drew
          exact b1.grown g2 (by omega) (fun k ek => by cases ek; exact Nat.le_refl _)
      dsimp only [vIt] at l1 me l2
      clear hc c1 c2 hx hbl HM CV okx hs CV2 g1 g2 z1 z2 hcl hll hC hVb hlt2 szV
      rw [hV] at l1 me t7 t7'
      go_wp2_with fail
      go_region
      all_goals
        go_wp2_with fail
        go_roundg (n - (i + 1))
        case measure => omega
        case rel => exact ⟨i + 1, by go_num, by omega, by omega, HN⟩
    · have hltz : ¬ (i : Int) < (n : Int) := by omega
      have e0 : i = n := by omega
      subst e0
      have M1 : Aside (CM vIt okIt wr w.heap.size (fun y => cntI d.toList y - cntI (d'.toList.take 0) y) ∧ Below w.heap.size w wr) := by
        refine ⟨?_, HM.out.2⟩
        have h1 := HM.out.1
        rw [show d.toList.take i = d.toList by rw [← H.out.2.1, ← Array.length_toList, List.take_length]] at h1
        rw [show (fun y => cntI d.toList y - cntI (d'.toList.take 0) y) = cntI d.toList from funext (fun y => by simp [cntI])]
        exact h1
      clear HM
      go_wp2_with fail
      go_loopg [28] i (fun g vi wr => ∃ j : Nat, vi = .int .i64 j ∧ j ≤ i ∧ i - j ≤ g ∧ Aside (CM vIt okIt wr w.heap.size (fun y => cntI d.toList y - cntI (d'.toList.take j) y) ∧ Below w.heap.size w wr))
      case atStart => exact ⟨0, rfl, Nat.zero_le _, by omega, M1⟩
      case round =>
        obtain ⟨n, hnn⟩ : ∃ n, n = i := ⟨_, rfl⟩
        subst hnn
        obtain ⟨i, rfl, hin, hg, HM⟩ := hrel
        by_cases hlt : i < n
        · have hltz : (i : Int) < (n : Int) := by omega
          obtain ⟨blk, off, rfl, hbl, hc⟩ := H'.out.1 (by rw [H'.out.2.1]; omega)
          obtain ⟨⟨x1, x2⟩, hx⟩ : ∃ x : It, x = d'[i]! := ⟨_, rfl⟩
          obtain ⟨c1, c2⟩ := hc i (by rw [H'.out.2.1]; omega)
          rw [← hx] at c1 c2
          dsimp only at c1 c2
          have q1 := (HM.out.2.cell (p := ⟨blk, off + i * 2, none⟩) hbl).trans c1
          have q2 := (HM.out.2.cell (p := ⟨blk, off + i * 2 + 1, none⟩) hbl).trans c2
          obtain ⟨V, hV⟩ : ∃ V, V = (wr.alloc (.cells #[.int .i64 x1, .int .i64 x2] 49)).drew := ⟨_, rfl⟩
          have hlt2 := HM.out.1.lt
          have hVb : ∀ j, j < wr.heap.size → V.heap[j]? = wr.heap[j]? := fun j hj => by rw [hV]; exact heap_alloc_old _ _ hj
          have CV : CM vIt okIt V w.heap.size (fun y => cntI d.toList y - cntI (d'.toList.take i) y) := HM.out.1.of_block (hVb _ hlt2)
          have okx : okIt (x1, x2) := by rw [hx]; exact H'.out.2.2 i (by rw [H'.out.2.1]; omega)
          obtain ⟨st, V1, l1, me, l2, g1, z1, hs⟩ := cm_step lawIt Tryz.underlying113 zeroInt vIt_inj keyOf_it CV (x1, x2) okx
          obtain ⟨V2, es, CV2, g2, z2⟩ := hs (cntI d.toList (x1, x2) - cntI (d'.toList.take i) (x1, x2) - 1)
          have hcl := cntI_le (d'.toList.take i) (x1, x2)
          have hcm := cntI_le d.toList (x1, x2)
          have hld : d.toList.length ≤ 2000 := by rw [Array.length_toList, H.out.2.1]; omega
          have hll : (d'.toList.take i).length ≤ 2000 := by rw [List.length_take]; omega
          obtain ⟨C, hC⟩ : ∃ C, C = cntI d.toList (x1, x2) - cntI (d'.toList.take i) (x1, x2) := ⟨_, rfl⟩
          have hcn : -2000 ≤ C ∧ C ≤ 2000 := by omega
          try dsimp only at l1 me l2 es
          rw [← hC] at l1 me l2 es
          have hw1 : IntKind.i64.wrap (C - 1) = C - 1 := by rw [IntKind.wrap_i64]; omega
          have szV : V.heap.size = wr.heap.size + 1 := by rw [hV]; simp
          have t7 : V.cell? ⟨wr.heap.size, 0, none⟩ = some (.int .i64 x1) := by rw [hV]; simp [go_sem]
          have t7' : V.cell? ⟨wr.heap.size, 1, none⟩ = some (.int .i64 x2) := by rw [hV]; simp [go_sem]
          have t8 := (kept_cell g1 (p := ⟨wr.heap.size, 0, none⟩) (by dsimp only; omega) (by simp; omega)).trans t7
          have t8' := (kept_cell g1 (p := ⟨wr.heap.size, 1, none⟩) (by dsimp only; omega) (by simp; omega)).trans t7'
          have HN : Aside (CM vIt okIt V2 w.heap.size (fun y => cntI d.toList y - cntI (d'.toList.take (i + 1)) y) ∧ Below w.heap.size w V2) := by
            refine ⟨?_, ?_⟩
            · rw [take_snoc (by rw [H'.out.2.1]; omega), ← hx, show (fun y => cntI d.toList y - cntI (d'.toList.take i ++ [(x1, x2)]) y) = fun y => if y = (x1, x2) then cntI d.toList (x1, x2) - cntI (d'.toList.take i) (x1, x2) - 1 else cntI d.toList y - cntI (d'.toList.take i) y from funext (fun y => cntI_less _ _ _ _)]
              exact CV2
            · have b1 : Below w.heap.size w V := by rw [hV]; exact (HM.out.2.alloc (by omega) _).drew
              exact b1.grown g2 (by omega) (fun k ek => by cases ek; exact Nat.le_refl _)
          dsimp only [vIt] at l1 me l2
          clear hcm hld hcn hc c1 c2 hx hbl HM CV okx hs CV2 g1 g2 z1 z2 hcl hll hC hVb hlt2 szV
          rw [hV] at l1 me t7 t7'
          go_wp2_with fail
          go_region
          all_goals
            go_wp2_with fail
            go_roundg (n - (i + 1))
            case measure => omega
            case rel => exact ⟨i + 1, by go_num, by omega, by omega, HN⟩
        · have hltz : ¬ (i : Int) < (n : Int) := by omega
          have e0 : i = n := by omega
          subst e0
          have M2 : Aside (CM vIt okIt wr w.heap.size (fun y => cntI d.toList y - cntI (d'.toList.take i) y)) := HM.out.1
          have B2 : Aside (Below w.heap.size w wr ∧ w.heap.size ≤ wr.heap.size) := ⟨HM.out.2, HM.out.2.size⟩
          have Z2 : ∀ y, cntI d.toList y - cntI (d'.toList.take i) y = 0 := fun y => by
            rw [show d'.toList.take i = d'.toList by rw [← H'.out.2.1, ← Array.length_toList, List.take_length]]
            exact HP.out y
          have Z3 : Aside _ := Z2
          clear HM Z2
          go_wp2_with (refine wpList_range_cm Tryz.underlying113 M2 Z3.out rfl _ rfl rfl ?_; intro w' g RZ0 BZ)
          obtain ⟨r, hr⟩ : ∃ r, r = wr.heap.size := ⟨_, rfl⟩
          rw [← hr] at RZ0 ⊢
          have B3 : Aside (Below w.heap.size w w' ∧ w.heap.size ≤ w'.heap.size ∧ w.heap.size ≤ r) := ⟨Below.next B2.out.1 BZ.out, (Below.next B2.out.1 BZ.out).size, by rw [hr]; exact B2.out.2⟩
          clear hr M2 B2 Z3 BZ
          go_loopg [11] g (fun gg _ wr => ∃ q : Nat, q ≤ gg ∧ Aside (RZ vIt wr w.heap.size r q ∧ Below w.heap.size w wr ∧ w.heap.size ≤ wr.heap.size))
          case atStart => exact ⟨g, Nat.le_refl _, RZ0.out, B3.out.1, B3.out.2.1⟩
          case round =>
            obtain ⟨q, hq, HR⟩ := hrel
            have R1 : Aside (RZ vIt wr w.heap.size r q) := HR.out.1
            go_wp2_with (refine wpList_next_rz R1 rfl _ rfl rfl ?_ (fun y w2 q' hlt R2 hen hgr => ?_))
            · go_ret
              exact ⟨rfl, HR.out.2.1⟩
            · have NR : Aside (RZ vIt w2 w.heap.size r q' ∧ Below w.heap.size w w2 ∧ w.heap.size ≤ w2.heap.size) := ⟨R2.out, HR.out.2.1.grown hgr.out HR.out.2.2 (fun k ek => by cases ek; exact B3.out.2.2), Nat.le_trans HR.out.2.2 hgr.out.size⟩
              clear R1 R2 HR hgr
              go_wp2_with fail
              go_roundg q'
              case measure => omega
              case rel => exact ⟨q', Nat.le_refl _, NR⟩
end Go.Proofs.YtglgmkikegbchaaGreat
