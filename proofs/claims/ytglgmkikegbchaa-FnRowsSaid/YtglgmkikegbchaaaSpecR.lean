/- spec.Rows, walked. -/
import Derived.Test.YtglgmkikegbchaaaNext
import Derived.Test.YtglgmkikegbchaaaRowsW
namespace Go.Proofs.Ytglgmkikegbchaa
open Go.RowKit

/-- What holds between two steps of the reference. -/
def PI (d : Array Stp) (w0 : World) (i : Nat) (v2 v4 : Value) (w : World) : Prop :=
  ∃ vs, w.ownsRow w0.heap.size 59 1 v2 i vs ∧ RowsI w vs (rowsP d i) ∧ RowI 3 w v4 (stP d i).r ∧ Below w0.heap.size w0 w
theorem PI.below {d : Array Stp} {w0 w w' : World} {i : Nat} {v2 v4 : Value} (h : PI d w0 i v2 v4 w) (hb : Below w.heap.size w w') : PI d w0 i v2 v4 w' := by
  obtain ⟨vs, h1, h2, h3, h4⟩ := h
  exact ⟨vs, own_below h1 hb, h2.below hb, h3.below hb, Below.nxt h4 hb⟩
/-- What the reference tells. -/
def SpecTo (d : Array Stp) (w : World) (n : Nat) (e : Ending) (w' : World) : Prop :=
  Below w.heap.size w w' ∧ ((∃ v, e = .returned (.tuple #[v, .bool false])) ∨ (n ≤ 400 ∧ (∀ i, i < n → okP (stP d i) d[i]!) ∧ ∃ v2 vs, e = .returned (.tuple #[v2, .bool true]) ∧ w'.ownsRow w.heap.size 59 1 v2 n vs ∧ RowsI w' vs (rowsP d n)))
/-- A row is put behind the rows. -/
theorem rows_push {d : Array Stp} {w w' : World} {i n0 : Nat} {vs : List Value} {v v2 : Value} (h : RowsI w vs (rowsP d i)) (hr : RowI 3 w v (stP d (i + 1)).r) (ho : w.ownsRow n0 59 1 v2 i vs) (hg : w.grownBy w' v2.ownBlock) :
    RowsI w' (vs ++ [v]) (rowsP d (i + 1)) := by
  have f1 : Fr (· = 59) n0 w w' := fr_own ho hg
  refine ⟨by rw [rowsP_succ, List.length_append, List.length_append, h.1]; rfl, fun j v' r hv hr' => ?_⟩
  rw [rowsP_succ] at hr'
  have hl := h.1
  by_cases hj : j < vs.length
  · rw [List.getElem?_append_left hj] at hv
    rw [List.getElem?_append_left (by omega)] at hr'
    exact (h.2 j v' r hv hr').fr f1 (by decide)
  · rw [List.getElem?_append_right (by omega)] at hv hr'
    rw [← hl] at hr'
    cases hk : j - vs.length with
    | zero =>
      rw [hk] at hv hr'
      simp only [List.getElem?_cons_zero, Option.some.injEq] at hv hr'
      subst hv
      subst hr'
      exact hr.fr f1 (by decide)
    | succ k => rw [hk] at hv; simp at hv

set_option maxHeartbeats 8000000 in
set_option maxRecDepth 1000000 in
theorem specRows_calls (a : Option Addr) (cap n : Nat) (d : Array Stp) (w : World) (h : Rd3 w a d) (hn : d.size = n) (hsz : n ≤ 2147483647) :
    Calls Try.prog 28 #[.slice a n cap] w (SpecTo d w n) := by
  have H : Aside (Rd3 w a d ∧ d.size = n) := ⟨h, hn⟩
  clear h hn
  have P0 : Aside (PI d w 0 (.slice none 0 0) (.slice none 0 0) w) := ⟨[], World.ownsRow_nil _ _ _ _, ⟨rfl, fun j v r hv => by simp at hv⟩, rowI_nil _ _, Below.refl _ _⟩
  go_enter Try.func28, Try.ntmps28
  go_wp2_with fail
  go_loopg [2, 4, 5, 6, 13] n (fun g v2 v4 v5 v6 vi wr => ∃ i M F : Nat, vi = .int .i64 i ∧ v5 = .int .i64 M ∧ v6 = .int .i64 F ∧ i ≤ n ∧ n - i ≤ g ∧ Aside ((M : Int) = (stP d i).m ∧ (F : Int) = (stP d i).f) ∧ Aside (PI d w i v2 v4 wr) ∧ Aside ((∀ j, j < i → okP (stP d j) d[j]!) ∧ (0 < i → n ≤ 400)))
  case atStart => exact ⟨0, 0, 0, rfl, rfl, rfl, by omega, by omega, ⟨rfl, rfl⟩, P0, ⟨fun j hj => absurd hj (by omega), fun h => absurd h (by omega)⟩⟩
  case round =>
    clear P0
    obtain ⟨i, M, F, rfl, rfl, rfl, hi, hg, HMF, HP, HK⟩ := hrel
    by_cases hlt : i < n
    · have hltz : (i : Int) < (n : Int) := by omega
      obtain ⟨hd, hdn⟩ := H.out
      obtain ⟨blk, off, rfl, hbl, hc⟩ := hd (by omega)
      obtain ⟨c0, c1, c2⟩ := hc i (by omega)
      obtain ⟨s, hs⟩ : ∃ s, s = d[i]! := ⟨_, rfl⟩
      obtain ⟨sk, sa, sb⟩ := s
      rw [← hs] at c0 c1 c2
      have hw0 : Below w.heap.size w wr := by obtain ⟨_, _, _, _, h4⟩ := HP.out; exact h4
      replace c0 : wr.cell? ⟨blk, off + i * 3, none⟩ = some (.int .i64 sk) := (hw0.cell (p := ⟨blk, off + i * 3, none⟩) hbl).trans c0
      replace c1 : wr.cell? ⟨blk, off + i * 3 + 1, none⟩ = some (.int .i64 sa) := (hw0.cell (p := ⟨blk, off + i * 3 + 1, none⟩) hbl).trans c1
      replace c2 : wr.cell? ⟨blk, off + i * 3 + 2, none⟩ = some (.int .i64 sb) := (hw0.cell (p := ⟨blk, off + i * 3 + 2, none⟩) hbl).trans c2
      have HS : Aside (d[i]! = ⟨sk, sa, sb⟩) := hs.symm
      clear hd hdn hc hs hw0 hbl
      go_upto_region 6 with fail
      obtain ⟨W, hW⟩ : ∃ W, W = wr.alloc (.cells #[.int .i64 sk, .int .i64 sa, .int .i64 sb] 93) := ⟨_, rfl⟩
      obtain ⟨sx, hsx⟩ : ∃ b, b = wr.heap.size := ⟨_, rfl⟩
      have hnew := heap_alloc_new wr (.cells #[.int .i64 sk, .int .i64 sa, .int .i64 sb] 93)
      rw [← hW, ← hsx] at hnew
      have HW : Aside (PI d w i u2 u4 W) := by
        have hb : Below wr.heap.size wr W := by rw [hW]; exact (Below.refl _ wr).alloc (Nat.le_refl _) _
        exact HP.out.below hb
      have s0 : W.cell? ⟨sx, 0, none⟩ = some (.int .i64 sk) := cell_of_row _ _ 0 _ _ _ hnew
      have s1 : W.cell? ⟨sx, 1, none⟩ = some (.int .i64 sa) := cell_of_row _ _ 1 _ _ _ hnew
      have s2 : W.cell? ⟨sx, 2, none⟩ = some (.int .i64 sb) := cell_of_row _ _ 2 _ _ _ hnew
      rw [← hW, ← hsx]
      have HBW : Aside (Below w.heap.size w W) := by obtain ⟨_, _, _, _, h4⟩ := HW.out; exact h4
      clear hnew hW hsx HP c0 c1 c2
      by_cases hn4 : n ≤ 400
      · have hn4z : ¬ (400 : Int) < (n : Int) := by omega
        by_cases hk0 : sk < 0
        · clear HW HK s1 s2
          go_wp2_with fail
          (try simp only [Exit.inBlock, Exit.then]); refine bodyPost_ret (results_tmp2 rfl _ _ _) rfl ?_
          exact ⟨HBW.out, Or.inl ⟨_, rfl⟩⟩
        · by_cases hk1 : 10 ≤ sk
          · clear HW HK s1 s2
            go_wp2_with fail
            (try simp only [Exit.inBlock, Exit.then]); refine bodyPost_ret (results_tmp2 rfl _ _ _) rfl ?_
            exact ⟨HBW.out, Or.inl ⟨_, rfl⟩⟩
          · go_upto_region 8 with fail
            have hks : sk = 0 ∨ sk = 1 ∨ sk = 2 ∨ sk = 3 ∨ sk = 4 ∨ sk = 5 ∨ sk = 6 ∨ sk = 7 ∨ sk = 8 ∨ sk = 9 := by omega
            have HKS : Aside (0 ≤ sk ∧ sk < 10 ∧ n ≤ 400) := ⟨by omega, by omega, hn4⟩
            clear hk0 hk1 hn4z hn4
            go_cut [9] from 30 to 37 (fun v9 wx => v9 = .bool (decide (sk = 7 ∨ sk = 8)) ∧ wx = W)
            case first => as_aux_lemma =>
              clear HW HK HBW s1 s2 HMF HKS HS
              rcases hks with rfl | rfl | rfl | rfl | rfl | rfl | rfl | rfl | rfl | rfl
              all_goals (go_wp2_with fail; go_meet; exact ⟨rfl, rfl⟩)
            case rest =>
            obtain ⟨rfl, hwc⟩ := hcut
            subst hwc
            go_upto_region 9 with fail
            go_cut [10] from 38 to 45 (fun v10 wx => v10 = .bool (decide (2 ≤ sk ∧ sk ≤ 8)) ∧ wx = wc)
            case first => as_aux_lemma =>
              clear HW HK HBW s1 s2 HMF HKS HS
              rcases hks with rfl | rfl | rfl | rfl | rfl | rfl | rfl | rfl | rfl | rfl
              all_goals (go_wp2_with fail; go_meet; exact ⟨rfl, rfl⟩)
            case rest =>
            obtain ⟨rfl, hwc⟩ := hcut
            subst hwc
            clear hks
            go_upto_region 10 with fail
            generalize hbo : decide (2 ≤ sk ∧ sk ≤ 8) = bo
            generalize hbt : decide (sk = 7 ∨ sk = 8) = bt
            have HBO : Aside (bo = decide (2 ≤ sk ∧ sk ≤ 8) ∧ bt = decide (sk = 7 ∨ sk = 8)) := ⟨hbo.symm, hbt.symm⟩
            clear hbo hbt
            go_cut [73] from 46 to 73 (fun v73 wx => v73 = .bool (bo && (decide (sa < F) || decide ((M : Int) ≤ sa)) || bt && (decide (sb < F) || decide ((M : Int) ≤ sb))) ∧ wx = wc)
            case first => as_aux_lemma =>
              clear HW HK HBW HMF HKS HS HBO
              cases bo <;> cases bt
              · go_wp2_with fail
                go_meet
                exact ⟨rfl, rfl⟩
              · by_cases h3 : sb < (F : Int) <;> by_cases h4 : (M : Int) ≤ sb
                all_goals (go_wp2_with fail; go_meet; exact ⟨by simp [h3, h4], rfl⟩)
              · by_cases h1 : sa < (F : Int) <;> by_cases h2 : (M : Int) ≤ sa
                all_goals (go_wp2_with fail; go_meet; exact ⟨by simp [h1, h2], rfl⟩)
              · by_cases h1 : sa < (F : Int)
                · go_wp2_with fail
                  go_meet
                  exact ⟨by simp [h1], rfl⟩
                · by_cases h2 : (M : Int) ≤ sa
                  · go_wp2_with fail
                    go_meet
                    exact ⟨by simp [h2], rfl⟩
                  · by_cases h3 : sb < (F : Int)
                    · go_wp2_with fail
                      go_meet
                      exact ⟨by simp [h3], rfl⟩
                    · by_cases h4 : (M : Int) ≤ sb
                      · go_wp2_with fail
                        go_meet
                        exact ⟨by simp [h4], rfl⟩
                      · go_wp2_with fail
                        go_meet
                        exact ⟨by simp [h1, h2, h3, h4], rfl⟩
            case rest =>
            obtain ⟨rfl, hwc⟩ := hcut
            subst hwc
            generalize hbb : (bo && (decide (sa < F) || decide ((M : Int) ≤ sa)) || bt && (decide (sb < F) || decide ((M : Int) ≤ sb))) = bb
            cases bb with
            | true =>
              clear HW HK s1 s2 hbb
              go_wp2_with fail
              (try simp only [Exit.inBlock, Exit.then]); refine bodyPost_ret (results_tmp2 rfl _ _ _) rfl ?_
              exact ⟨HBW.out, Or.inl ⟨_, rfl⟩⟩
            | false =>
              have HOK : Aside (okP (stP d i) d[i]!) := by
                obtain ⟨e1, e2⟩ := HBO.out
                obtain ⟨m1, m2⟩ := HMF.out
                rw [e1, e2] at hbb
                show okP _ _
                rw [HS.out]
                refine ⟨⟨HKS.out.1, HKS.out.2.1⟩, fun h1 h2 => ?_, fun h1 h2 => ?_⟩
                · dsimp only at h1 h2 ⊢
                  simp [h1, h2] at hbb
                  omega
                · dsimp only at h1 h2 ⊢
                  have h7 : sk = 7 ∨ sk = 8 := by omega
                  simp [h7] at hbb
                  omega
              clear hbb HBO
              go_upto_region 12 with fail
              have hbnd := stP_bounds d i
              obtain ⟨vs, p1, p2, p3, p4⟩ := HW.out
              have CN := hid (next_calls u4 (stP d i).r M sk sa sb wc p3 (by have := HKS.out; omega) (by have := HKS.out; have := HMF.out; omega) ⟨HKS.out.1, HKS.out.2.1⟩)
              have HVS : Aside (wc.ownsRow w.heap.size 59 1 u2 i vs ∧ RowsI wc vs (rowsP d i) ∧ Below w.heap.size w wc) := ⟨p1, p2, p4⟩
              have t0 := lt_of_cell s0
              clear p1 p2 p3 p4 hbnd HW
              go_wp2_with fail
              refine CN.out.mono ?_
              rintro e w1 ⟨v1, rfl, hr1, hb1⟩
              have hmd := madeP_le (stP d i).r (M : Int) ⟨sk, sa, sb⟩
              obtain ⟨M', hM'⟩ : ∃ M' : Nat, (M' : Int) = madeP (stP d i).r (M : Int) ⟨sk, sa, sb⟩ := ⟨(madeP (stP d i).r (M : Int) ⟨sk, sa, sb⟩).toNat, by omega⟩
              rw [← hM']
              have HM' : Aside ((M' : Int) = (stP d (i + 1)).m) := by
                show _ = (stepP (stP d i) d[i]!).m
                simp only [stepP, HS.out, ← HMF.out.1]; exact hM'
              have HR1 : Aside (RowI 3 w1 v1 (stP d (i + 1)).r) := by
                show RowI _ _ _ (stepP (stP d i) d[i]!).r
                simp only [stepP, HS.out, ← HMF.out.1]; exact hr1
              have q0 : w1.cell? ⟨sx, 0, none⟩ = some (.int .i64 sk) := (hb1.cell (by exact t0)).trans s0
              have HV1 : Aside (w1.ownsRow w.heap.size 59 1 u2 i vs ∧ RowsI w1 vs (rowsP d i) ∧ Below w.heap.size w w1) := ⟨own_below HVS.out.1 hb1, HVS.out.2.1.below hb1, Below.nxt HVS.out.2.2 hb1⟩
              obtain ⟨F', hF'⟩ : ∃ F' : Nat, F' = if sk = 9 then M' else F := ⟨_, rfl⟩
              have HF' : Aside ((F' : Int) = (stP d (i + 1)).f) := by
                show _ = (stepP (stP d i) d[i]!).f
                simp only [stepP, HS.out, hF']
                by_cases h9 : sk = 9
                · rw [if_pos h9, if_pos h9, hM']
                  simp only [madeP, rowP, h9]
                  simp [HMF.out.1]
                · rw [if_neg h9, if_neg h9, HMF.out.2]
              clear CN hr1 hb1 hmd hM' HVS t0 s0 s1 s2
              go_upto_if 83 with fail
              go_cut [6] from 84 to 84 (fun v6 wx => v6 = .int .i64 F' ∧ wx = w1)
              case first => as_aux_lemma =>
                clear HM' HR1 HV1 HF' HK HMF HKS HOK HS HBW
                by_cases h9 : sk = 9
                · subst h9
                  go_wp2_with fail
                  go_meet
                  exact ⟨by simp [hF'], rfl⟩
                · go_wp2_with fail
                  go_meet
                  exact ⟨by rw [hF', if_neg h9], rfl⟩
              case rest =>
              obtain ⟨rfl, hwc⟩ := hcut
              subst hwc
              clear hF' q0
              have hbnd := stP_bounds d (i + 1)
              have CC := hid (clone_calls HR1.out (by have := HKS.out; omega))
              clear hbnd
              go_wp2_with fail
              refine CC.out.mono ?_
              rintro e w2 ⟨v2, rfl, ho2, hb2⟩
              have hr2 := (rowI_own ho2).1
              obtain ⟨a10, c10, h10⟩ := hr2.form
              obtain ⟨n10, hn10⟩ : ∃ k, k = (stP d (i + 1)).r.length := ⟨_, rfl⟩
              rw [← hn10] at h10
              subst h10
              have hb4 : Below w2.heap.size w2 (w2.alloc (.cells #[.slice a10 n10 c10] 59)) := (Below.refl _ w2).alloc (Nat.le_refl _) _
              have HRow : Aside (RowI 3 (w2.alloc (.cells #[.slice a10 n10 c10] 59)) (.slice a10 n10 c10) (stP d (i + 1)).r) := hr2.below hb4
              have HV : Aside ((w2.alloc (.cells #[.slice a10 n10 c10] 59)).ownsRow w.heap.size 59 1 u2 i vs ∧ RowsI (w2.alloc (.cells #[.slice a10 n10 c10] 59)) vs (rowsP d i) ∧ Below w.heap.size w (w2.alloc (.cells #[.slice a10 n10 c10] 59))) := ⟨own_below (own_below HV1.out.1 hb2) hb4, (HV1.out.2.1.below hb2).below hb4, Below.nxt (Below.nxt HV1.out.2.2 hb2) hb4⟩
              have HR4 : Aside (RowI 3 (w2.alloc (.cells #[.slice a10 n10 c10] 59)) v1 (stP d (i + 1)).r) := (HR1.out.below hb2).below hb4
              have HCc : Aside ((w2.alloc (.cells #[.slice a10 n10 c10] 59)).cell? ⟨w2.heap.size, 0, none⟩ = some (.slice a10 n10 c10)) := cell_of_row _ _ 0 _ _ _ (heap_alloc_new w2 _)
              have HN : Aside (i ≤ 400) := by have := HKS.out; show i ≤ 400; omega
              obtain ⟨i0, hi0, hz0, hz1, hz2⟩ := info_parts (show (Try.prog.info? 59).map (fun i => (i.zero, i.size, i.bytes)) = some (some (.slice none 0 0), 1, 24) by kernel_rfl)
              clear ho2 hb2 hr2 hn10 hb4 CC HV1 HR1
              go_wp2_with (at_builtin; refine wpList_append_own _ rfl _ _ 55 rfl w.heap.size 59 i0 (.slice none 0 0) 1 24 Try.underlying55 hi0 hz0 hz1 hz2 rfl (by decide) _ _ _ rfl HV.out.1 ⟨w2.heap.size, 0, none⟩ 1 1 [.slice a10 n10 c10] rfl ?qc1 ?qc2 ?qc3 ?qc4 ?qc5 ?qc6 ?_)
              case qc1 => rfl
              case qc2 => exact fun j u => one_cell j u HCc.out
              case qc3 => intro u hu; simp at hu; subst hu; rfl
              case qc4 => have := HN.out; unfold maxLen; omega
              case qc5 => have := HN.out; omega
              case qc6 => exact HV.out.2.2.size
              intro v2' w' ho hg _
              have HD : Aside (PI d w (i + 1) v2' v1 w') :=
                ⟨vs ++ [.slice a10 n10 c10], ho, rows_push HV.out.2.1 HRow.out HV.out.1 hg, HR4.out.fr (fr_own HV.out.1 hg) (by decide), HV.out.2.2.grown hg HV.out.2.2.size (fun k hk => (HV.out.1.lt k hk).1)⟩
              have HK' : Aside ((∀ j, j < i + 1 → okP (stP d j) d[j]!) ∧ (0 < i + 1 → n ≤ 400)) := ⟨fun j hj => by
                by_cases hji : j = i
                · rw [hji]; exact HOK.out
                · exact HK.out.1 j (by omega), fun _ => HKS.out.2.2⟩
              clear HV HRow HR4 HCc ho hg HK HOK
              go_wp2_with fail
              go_roundg (n - (i + 1))
              case measure => omega
              case rel => exact ⟨i + 1, M', F', by go_num, rfl, rfl, by omega, Nat.le_refl _, ⟨HM'.out, HF'.out⟩, HD, HK'⟩
      · have hn4z : (400 : Int) < (n : Int) := by omega
        clear HW HK s1 s2
        go_wp2_with fail
        (try simp only [Exit.inBlock, Exit.then]); refine bodyPost_ret (results_tmp2 rfl _ _ _) rfl ?_
        exact ⟨HBW.out, Or.inl ⟨_, rfl⟩⟩
    · obtain rfl : i = n := by omega
      have hltz : ¬ (i : Int) < (i : Int) := by omega
      have hi4 : Aside (i ≤ 400) := by
        by_cases h0 : i = 0
        · show i ≤ 400; omega
        · exact HK.out.2 (by omega)
      go_wp2_with fail
      (try simp only [Exit.inBlock, Exit.then]); refine bodyPost_ret (results_tmp2 rfl _ _ _) rfl ?_
      obtain ⟨vs, h1, h2, _, h4⟩ := HP.out
      exact ⟨h4, Or.inr ⟨hi4.out, HK.out.1, _, vs, rfl, h1, h2⟩⟩
end Go.Proofs.Ytglgmkikegbchaa
