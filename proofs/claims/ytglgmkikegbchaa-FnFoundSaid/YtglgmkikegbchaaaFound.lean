/- Place, BinarySearchFunc, Find; impl.Found (printed by gen/found.py). -/
import Derived.Test.YtglgmkikegbchaaaIsSorted
import Derived.Test.YtglgmkikegbchaaMu
import Derived.BigQuiet
namespace Go.Proofs.Ytglgmkikegbchaa
open Go.RowKit Go.Sort

/-- What Place tells. -/
def PlaceTo (w : World) (lt : It → It → Bool) (d : Array It) (x : It) (n : Nat) (e : Ending) (w' : World) : Prop := ∃ (P : Nat) (b : Bool), e = .returned (.tuple #[.int .i64 (P : Int), .bool b]) ∧ (P ≤ n ∧ (∀ j, j < P → lt d[j]! x = true) ∧ (P < n → lt d[P]! x = false ∧ b = !lt x d[P]!) ∧ (¬ P < n → b = false)) ∧ Below w.heap.size w w'
theorem PlaceTo.mk {w : World} {lt : It → It → Bool} {d : Array It} {x : It} {n : Nat} {e : Ending} {w' : World} (P : Nat) (b : Bool) (h1 : e = .returned (.tuple #[.int .i64 (P : Int), .bool b])) (h2 : P ≤ n ∧ (∀ j, j < P → lt d[j]! x = true) ∧ (P < n → lt d[P]! x = false ∧ b = !lt x d[P]!) ∧ (¬ P < n → b = false)) (h3 : Below w.heap.size w w') : PlaceTo w lt d x n e w' := ⟨P, b, h1, h2, h3⟩
/-- What a search tells: up: the element stands ahead; zr: it is like the one that is looked for. -/
def FoundP (up : Nat → Prop) (zr : Nat → Bool) (n P : Nat) (b : Bool) : Prop := P ≤ n ∧ (0 < P → up (P - 1)) ∧ (P < n → ¬ up P ∧ b = zr P) ∧ (¬ P < n → b = false)
def FoundTo (w : World) (up : Nat → Prop) (zr : Nat → Bool) (n : Nat) (e : Ending) (w' : World) : Prop := ∃ (P : Nat) (b : Bool), e = .returned (.tuple #[.int .i64 (P : Int), .bool b]) ∧ FoundP up zr n P b ∧ Below w.heap.size w w'
theorem FoundTo.mk' {w : World} {up : Nat → Prop} {zr : Nat → Bool} {n : Nat} {e : Ending} {w' : World} (P : Nat) (b : Bool) (h1 : e = .returned (.tuple #[.int .i64 (P : Int), .bool b])) (h2 : FoundP up zr n P b) (h3 : Below w.heap.size w w') : FoundTo w up zr n e w' := ⟨P, b, h1, h2, h3⟩
theorem FoundTo.mk {w : World} {up : Nat → Prop} {zr : Nat → Bool} {n : Nat} {e : Ending} {w' : World} (P : Nat) (b : Bool) (h1 : e = .returned (.tuple #[.int .i64 (P : Int), .bool b])) (h2 : P ≤ n ∧ (0 < P → up (P - 1)) ∧ (P < n → ¬ up P ∧ b = zr P) ∧ (¬ P < n → b = false)) (h3 : Below w.heap.size w w') : FoundTo w up zr n e w' := ⟨P, b, h1, h2, h3⟩

theorem cf_cases (o : Ordr) (h3 : o.kind ≠ 3) (x y : It) : (muO o x < muO o y ∧ cfO o x y = -1) ∨ (muO o x = muO o y ∧ cfO o x y = 0) ∨ (muO o y < muO o x ∧ cfO o x y = 1) := by
  have key : ∀ a b : Int, (a < b ∧ sg a b = -1) ∨ (a = b ∧ sg a b = 0) ∨ (b < a ∧ sg a b = 1) := fun a b => by
    unfold sg
    by_cases h : a < b
    · exact Or.inl ⟨h, if_pos h⟩
    · by_cases h2 : b < a
      · exact Or.inr (Or.inr ⟨h2, by rw [if_neg h, if_pos h2]⟩)
      · exact Or.inr (Or.inl ⟨by omega, by rw [if_neg h, if_neg h2]⟩)
  unfold cfO muO
  by_cases k1 : o.kind = 1
  · simp only [k1, if_true]
    have := key y.1 x.1
    omega
  · by_cases k2 : o.kind = 2
    · simp only [k2, if_true, show ¬ (2 : Int) = 1 by decide, if_false]
      exact key _ _
    · simp only [k1, k2, h3, if_false]
      exact key _ _

/-- An element's box. -/
def BoxI (w : World) (b : Nat) (x1 x2 : Int) : Prop := b < w.heap.size ∧ w.cell? ⟨b, 0, none⟩ = some (.int .i64 x1) ∧ w.cell? ⟨b, 1, none⟩ = some (.int .i64 x2)
theorem BoxI.keep {w w' : World} {b : Nat} {x1 x2 : Int} (h : BoxI w b x1 x2) (hb : Below w.heap.size w w') : BoxI w' b x1 x2 := by
  obtain ⟨h0, k0, k1⟩ := h
  exact ⟨Nat.lt_of_lt_of_le h0 hb.size, (hb.cell (by exact h0)).trans k0, (hb.cell (by exact h0)).trans k1⟩
theorem boxI_new (w : World) (x1 x2 : Int) (t : TypeId) : BoxI (w.alloc (.cells #[.int .i64 x1, .int .i64 x2] t)) w.heap.size x1 x2 := ⟨by simp, by simp [go_sem], by simp [go_sem]⟩

set_option maxHeartbeats 4000000 in
set_option maxRecDepth 1000000 in
theorem place_calls (a : Option Addr) (cap n : Nat) (d : Array It) (o : Ordr) (x : It) (w : World) (h : Rd2 w a d) (hn : d.size = n) (hsz : n ≤ 2000) (h0 : 0 ≤ o.shift) (h63 : o.shift < 64) :
    Calls Try.prog 22 #[.slice a n cap, vOrd o, vIt x] w fun e w' => PlaceTo w (ltC (cfO o)) d x n e w' := by
  have LC := fun x y W => sless_calls o h0 h63 x y W
  generalize ltC (cfO o) = lt at LC ⊢
  have HD : Aside (Rd2 w a d ∧ d.size = n) := ⟨h, hn⟩
  clear h hn h0 h63
  obtain ⟨k, s, m0, m1, m2⟩ := o
  obtain ⟨x1, x2⟩ := x
  obtain ⟨U0, hU0⟩ : ∃ U, U = w.alloc (.cells #[.int .i64 k, .int .i64 s, .int .u64 m0, .int .u64 m1, .int .u64 m2] 26) := ⟨_, rfl⟩
  obtain ⟨U, hU⟩ : ∃ U, U = U0.alloc (.cells #[.int .i64 x1, .int .i64 x2] 34) := ⟨_, rfl⟩
  have BU0 : Below w.heap.size w U0 := by rw [hU0]; exact below_alloc _ _
  have BU1 : Below U0.heap.size U0 U := by rw [hU]; exact below_alloc _ _
  have g0 : U0.heap.size = w.heap.size + 1 := by rw [hU0]; simp
  have B0 : Aside (Below w.heap.size w U) := Below.next BU0 BU1
  have K0 : Aside (BoxO U w.heap.size ⟨k, s, m0, m1, m2⟩) := BoxO.keep (by rw [hU0]; exact boxO_new w ⟨k, s, m0, m1, m2⟩ _) BU1
  have I0 : Aside (BoxI U (w.heap.size + 1) x1 x2) := by show BoxI _ _ _ _; rw [← g0, hU]; exact boxI_new _ _ _ _
  clear BU0 BU1 g0
  go_enter Try.func22, Try.ntmps22
  go_upto_region 1 with fail
  rw [← hU0, ← hU]
  clear hU hU0
  go_wp2_with fail
  go_loopg [12] n (fun g vi wr => ∃ i : Nat, vi = .int .i64 i ∧ i ≤ n ∧ n - i ≤ g ∧ Aside (Below w.heap.size w wr) ∧ Aside (BoxO wr w.heap.size ⟨k, s, m0, m1, m2⟩) ∧ Aside (BoxI wr (w.heap.size + 1) x1 x2) ∧ Aside (∀ j, j < i → lt d[j]! (x1, x2) = true))
  case atStart => exact ⟨0, rfl, by omega, by omega, B0, K0, I0, fun j h => by omega⟩
  case round =>
    clear B0 K0 I0
    obtain ⟨i, rfl, hin, hg, Bk, Kk, Ik, HJ⟩ := hrel
    by_cases hlt : i < n
    · have hltz : (i : Int) < (n : Int) := by omega
      obtain ⟨blk, off, rfl, hbl, hc⟩ := HD.out.1 (by rw [HD.out.2]; omega)
      obtain ⟨⟨y1, y2⟩, hy⟩ : ∃ v : It, v = d[i]! := ⟨_, rfl⟩
      have e1 := hc i (by rw [HD.out.2]; omega)
      rw [← hy] at e1
      have c1 : wr.cell? ⟨blk, off + i * 2, none⟩ = some (.int .i64 y1) := (Bk.out.cell (p := ⟨blk, _, none⟩) hbl).trans e1.1
      have c2 : wr.cell? ⟨blk, off + i * 2 + 1, none⟩ = some (.int .i64 y2) := (Bk.out.cell (p := ⟨blk, _, none⟩) hbl).trans e1.2
      obtain ⟨V, hV⟩ : ∃ V, V = wr.alloc (Obj.cells #[.int .i64 y1, .int .i64 y2] 34) := ⟨_, rfl⟩
      have BV : Below wr.heap.size wr V := by rw [hV]; exact below_alloc _ _
      have BT : Aside (Below w.heap.size w V) := Below.next Bk.out BV
      have KT : Aside (BoxO V w.heap.size ⟨k, s, m0, m1, m2⟩) := Kk.out.keep BV
      have IT : Aside (BoxI V (w.heap.size + 1) x1 x2) := Ik.out.keep BV
      have YT : Aside (BoxI V wr.heap.size y1 y2) := by show BoxI _ _ _ _; rw [hV]; exact boxI_new _ _ _ _
      obtain ⟨c, hcc⟩ : ∃ c, c = lt (y1, y2) (x1, x2) := ⟨_, rfl⟩
      obtain ⟨c', hcc'⟩ : ∃ c, c = lt (x1, x2) (y1, y2) := ⟨_, rfl⟩
      have hl1 : ∀ W, Calls Try.prog 41 #[.agg #[.int .i64 k, .int .i64 s, .int .u64 m0, .int .u64 m1, .int .u64 m2], .agg #[.int .i64 y1, .int .i64 y2], .agg #[.int .i64 x1, .int .i64 x2]] W fun e w' => e = .returned (.bool c) ∧ Below W.heap.size W w' := fun W => by rw [hcc]; exact LC (y1, y2) (x1, x2) W
      have hl2 : Aside (∀ W, Calls Try.prog 41 #[.agg #[.int .i64 k, .int .i64 s, .int .u64 m0, .int .u64 m1, .int .u64 m2], .agg #[.int .i64 x1, .int .i64 x2], .agg #[.int .i64 y1, .int .i64 y2]] W fun e w' => e = .returned (.bool c') ∧ Below W.heap.size W w') := fun W => by rw [hcc']; exact LC (x1, x2) (y1, y2) W
      have HV : Aside (lt d[i]! (x1, x2) = c ∧ lt (x1, x2) d[i]! = c') := by show _ ∧ _; rw [← hy, hcc, hcc']; exact ⟨rfl, rfl⟩
      have LC' : Aside _ := LC
      clear LC hcc hcc' hy e1 hc BV
      go_upto_region 4 with fail
      rw [← hV]
      generalize wr.heap.size = gy at YT ⊢
      clear hV c1 c2 Bk Kk Ik
      obtain ⟨_, k0, k1, k2, k3, k4⟩ := KT.out
      obtain ⟨_, i0, i1⟩ := IT.out
      obtain ⟨_, y0, y1'⟩ := YT.out
      cases c with
      | true =>
        go_wp2_with fail
        refine (hl1 _).mono ?_
        rintro e w2 ⟨rfl, hb⟩
        have B2 : Aside (Below w.heap.size w w2) := Below.next BT.out hb
        have K2 : Aside (BoxO w2 w.heap.size ⟨k, s, m0, m1, m2⟩) := KT.out.keep hb
        have I2 : Aside (BoxI w2 (w.heap.size + 1) x1 x2) := IT.out.keep hb
        clear hb hl1 k0 k1 k2 k3 k4 i0 i1 y0 y1' BT KT IT YT
        go_wp2_with fail
        go_roundg (n - (i + 1))
        case measure => omega
        case rel => exact ⟨i + 1, by go_num, by omega, Nat.le_refl _, B2, K2, I2, fun j hj => by
          by_cases hji : j = i
          · rw [hji]; exact HV.out.1
          · exact HJ.out j (by omega)⟩
      | false =>
        go_wp2_with fail
        refine (hl1 _).mono ?_
        rintro e w2 ⟨rfl, hb⟩
        have B2 : Aside (Below w.heap.size w w2) := Below.next BT.out hb
        have K2 : Aside (BoxO w2 w.heap.size ⟨k, s, m0, m1, m2⟩) := KT.out.keep hb
        have I2 : Aside (BoxI w2 (w.heap.size + 1) x1 x2) := IT.out.keep hb
        have Y2 : Aside (BoxI w2 gy y1 y2) := YT.out.keep hb
        clear hb hl1 k0 k1 k2 k3 k4 i0 i1 y0 y1' BT KT IT YT
        obtain ⟨_, k0, k1, k2, k3, k4⟩ := K2.out
        obtain ⟨_, i0, i1⟩ := I2.out
        obtain ⟨_, y0, y1'⟩ := Y2.out
        have hl2' := hl2.out w2
        go_wp2_with fail
        refine hl2'.mono ?_
        rintro e w3 ⟨rfl, hb⟩
        have B3 : Aside (Below w.heap.size w w3) := Below.next B2.out hb
        clear hb hl2' k0 k1 k2 k3 k4 i0 i1 y0 y1' B2 K2 I2 Y2
        go_wp2_with fail
        (try simp only [Exit.inBlock, Exit.then]); refine bodyPost_ret (results_tmp2 rfl _ _ _) rfl ?_
        exact PlaceTo.mk i (!c') rfl ⟨by omega, HJ.out, fun _ => ⟨HV.out.1, by rw [HV.out.2]⟩, fun h => absurd hlt h⟩ B3.out
    · have hltz : ¬ (i : Int) < (n : Int) := by omega
      obtain rfl : i = n := by omega
      go_wp2_with fail
      (try simp only [Exit.inBlock, Exit.then]); refine bodyPost_ret (results_tmp2 rfl _ _ _) rfl ?_
      exact PlaceTo.mk i false rfl ⟨Nat.le_refl _, HJ.out, fun h => absurd h (by omega), fun _ => rfl⟩ Bk.out

set_option maxHeartbeats 4000000 in
set_option maxRecDepth 1000000 in
theorem bsf_calls (O : Value) (cf : It → It → Int) (LC0 : ∀ x y W, Calls Try.prog 36 #[O, vIt x, vIt y] W fun e w' => e = .returned (.int .i64 (cf x y)) ∧ Below W.heap.size W w') (a : Option Addr) (cap n : Nat) (d : Array It) (x : It) (w : World) (h : Rd2 w a d) (hn : d.size = n) (hsz : n ≤ 2000) :
    Calls Try.prog 46 #[.slice a n cap, vIt x, .func (.func 36) #[O] #[]] w fun e w' => FoundTo w (fun i => cf d[i]! x < 0) (fun i => cf d[i]! x == 0) n e w' := by
  have LC : Aside (∀ x y W, Calls Try.prog 36 #[O, vIt x, vIt y] W fun e w' => e = .returned (.int .i64 (cf x y)) ∧ Below W.heap.size W w') := LC0
  have HD : Aside (Rd2 w a d ∧ d.size = n) := ⟨h, hn⟩
  clear h hn LC0
  obtain ⟨x1, x2⟩ := x
  obtain ⟨U, hU⟩ : ∃ U, U = w.alloc (.cells #[.int .i64 x1, .int .i64 x2] 34) := ⟨_, rfl⟩
  have B0 : Aside (Below w.heap.size w U) := by show Below _ _ _; rw [hU]; exact below_alloc _ _
  have I0 : Aside (BoxI U w.heap.size x1 x2) := by show BoxI _ _ _ _; rw [hU]; exact boxI_new _ _ _ _
  have mixed : Try.prog.follows .mixedOrders = true := by kernel_rfl
  go_enter Try.func46, Try.ntmps46
  go_upto_region 1 with fail
  rw [← hU]
  clear hU
  go_wp2_with fail
  go_loopg [9, 10] n (fun g vi vj wr => ∃ i j : Nat, vi = .int .i64 i ∧ vj = .int .i64 j ∧ i ≤ j ∧ j ≤ n ∧ j - i ≤ g ∧ Aside (Below w.heap.size w wr) ∧ Aside (BoxI wr w.heap.size x1 x2) ∧ Aside ((0 < i → cf d[i - 1]! (x1, x2) < 0) ∧ (j < n → ¬ cf d[j]! (x1, x2) < 0)))
  case atStart => exact ⟨0, n, rfl, rfl, by omega, by omega, by omega, B0, I0, ⟨fun h => absurd h (by omega), fun h => absurd h (by omega)⟩⟩
  case round =>
    clear B0 I0
    obtain ⟨i, j, rfl, rfl, hij, hj, hg, Bk, Ik, HI⟩ := hrel
    by_cases hlt : i < j
    · have hltz : (i : Int) < (j : Int) := by omega
      obtain ⟨M, hM⟩ : ∃ M : Nat, M = (i + j) / 2 := ⟨_, rfl⟩
      have e1 : IntKind.i64.wrap ((i : Int) + (j : Int)) = (i : Int) + (j : Int) := by rw [IntKind.wrap_i64]; omega
      have e2 : IntKind.u64.wrap ((i : Int) + (j : Int)) = (i : Int) + (j : Int) := by rw [IntKind.wrap_u64]; omega
      have e3 : ((i : Int) + (j : Int)) / 2 = (M : Int) := by omega
      have hm1 : i ≤ M := by omega
      have hm2 : M < j := by omega
      clear hM
      obtain ⟨blk, off, rfl, hbl, hc⟩ := HD.out.1 (by rw [HD.out.2]; omega)
      obtain ⟨⟨y1, y2⟩, hy⟩ : ∃ v : It, v = d[M]! := ⟨_, rfl⟩
      have f1 := hc M (by rw [HD.out.2]; omega)
      rw [← hy] at f1
      have q1 := cell_regrown ((Bk.out.cell (p := ⟨blk, off + M * 2, none⟩) hbl).trans f1.1)
      have q2 := cell_regrown ((Bk.out.cell (p := ⟨blk, off + M * 2 + 1, none⟩) hbl).trans f1.2)
      dsimp only at q1 q2
      obtain ⟨_, i0, i1⟩ := Ik.out
      have q3 := cell_regrown i0
      have q4 := cell_regrown i1
      obtain ⟨c, hcc⟩ : ∃ c, c = cf (y1, y2) (x1, x2) := ⟨_, rfl⟩
      have hl : ∀ p : Regrown, Calls Try.prog 36 #[O, .agg #[.int .i64 y1, .int .i64 y2], .agg #[.int .i64 x1, .int .i64 x2]] (grow (redrawn wr p.d) p.os) fun e w'' => e = .returned (.int .i64 c) ∧ ∃ p : Regrown, w'' = grow (redrawn wr p.d) p.os := fun p => by rw [hcc]; exact Calls.regrown_of (LC.out (y1, y2) (x1, x2) _)
      have HV : Aside (cf d[M]! (x1, x2) = c) := by show cf _ _ = _; rw [← hy, hcc]
      have bM : (M : Int) < (n : Int) := by omega
      have rM : IntKind.i64.wrap (M : Int) = (M : Int) := by rw [IntKind.wrap_i64]; omega
      clear hc hy f1 hcc i0 i1
      by_cases hcl : c < 0
      · have hcd : decide (c < 0) = true := decide_eq_true hcl
        go_upto_region 5 with fail
        refine wp_region_quiet_below (by assumption) (by kernel_rfl) ?_
        repeat' (quiet_step (with_reducible exact hl _))
        all_goals
          refine wpQuiet_nil ?_
          intro _ hw'
          obtain ⟨⟨nq, osq⟩, hw''⟩ := hw'
          subst hw''
        have B2 : Aside _ := Below.next Bk.out (below_regrown wr nq osq)
        have I2 : Aside _ := Ik.out.keep (below_regrown wr nq osq)
        clear hl q1 q2 q3 q4
        go_wp2_with fail
        go_roundg (j - (M + 1))
        case measure => omega
        case rel => exact ⟨M + 1, j, by go_num, rfl, by omega, by omega, Nat.le_refl _, B2, I2, ⟨fun _ => by rw [Nat.add_sub_cancel, HV.out]; exact hcl, HI.out.2⟩⟩
      · have hcd : decide (c < 0) = false := decide_eq_false hcl
        go_upto_region 5 with fail
        refine wp_region_quiet_below (by assumption) (by kernel_rfl) ?_
        repeat' (quiet_step (with_reducible exact hl _))
        all_goals
          refine wpQuiet_nil ?_
          intro _ hw'
          obtain ⟨⟨nq, osq⟩, hw''⟩ := hw'
          subst hw''
        have B2 : Aside _ := Below.next Bk.out (below_regrown wr nq osq)
        have I2 : Aside _ := Ik.out.keep (below_regrown wr nq osq)
        clear hl q1 q2 q3 q4
        go_wp2_with fail
        go_roundg (M - i)
        case measure => omega
        case rel => exact ⟨i, M, rfl, rfl, hm1, by omega, Nat.le_refl _, B2, I2, ⟨HI.out.1, fun _ => by rw [HV.out]; exact hcl⟩⟩
    · have hltz : ¬ (i : Int) < (j : Int) := by omega
      obtain rfl : j = i := by omega
      by_cases hjn : j < n
      · have hjnz : (j : Int) < (n : Int) := by omega
        obtain ⟨blk, off, rfl, hbl, hc⟩ := HD.out.1 (by rw [HD.out.2]; omega)
        obtain ⟨⟨y1, y2⟩, hy⟩ : ∃ v : It, v = d[j]! := ⟨_, rfl⟩
        have f1 := hc j (by rw [HD.out.2]; omega)
        rw [← hy] at f1
        have q1 := cell_regrown ((Bk.out.cell (p := ⟨blk, off + j * 2, none⟩) hbl).trans f1.1)
        have q2 := cell_regrown ((Bk.out.cell (p := ⟨blk, off + j * 2 + 1, none⟩) hbl).trans f1.2)
        dsimp only at q1 q2
        obtain ⟨_, i0, i1⟩ := Ik.out
        have q3 := cell_regrown i0
        have q4 := cell_regrown i1
        obtain ⟨c, hcc⟩ : ∃ c, c = cf (y1, y2) (x1, x2) := ⟨_, rfl⟩
        have hl : ∀ p : Regrown, Calls Try.prog 36 #[O, .agg #[.int .i64 y1, .int .i64 y2], .agg #[.int .i64 x1, .int .i64 x2]] (grow (redrawn wr p.d) p.os) fun e w'' => e = .returned (.int .i64 c) ∧ ∃ p : Regrown, w'' = grow (redrawn wr p.d) p.os := fun p => by rw [hcc]; exact Calls.regrown_of (LC.out (y1, y2) (x1, x2) _)
        have HV : Aside (cf d[j]! (x1, x2) = c) := by show cf _ _ = _; rw [← hy, hcc]
        have bM : (j : Int) < (n : Int) := by omega
        have rM : IntKind.i64.wrap (j : Int) = (j : Int) := by rw [IntKind.wrap_i64]; omega
        clear hc hy f1 hcc i0 i1
        go_wp2_with fail
        refine wp_region_quiet_below (by assumption) (by kernel_rfl) ?_
        repeat' (quiet_step (with_reducible exact hl _))
        all_goals
          refine wpQuiet_nil ?_
          intro _ hw'
          obtain ⟨⟨nq, osq⟩, hw''⟩ := hw'
          subst hw''
        have B2 : Aside _ := Below.next Bk.out (below_regrown wr nq osq)
        clear hl q1 q2 q3 q4
        go_wp2_with fail
        (try simp only [Exit.inBlock, Exit.then]); refine bodyPost_ret (results_tmp2 rfl _ _ _) rfl ?_
        refine FoundTo.mk j (c == 0) rfl ⟨by omega, HI.out.1, fun h => ⟨(by have := HI.out.2 h; show ¬ cf d[j]! (x1, x2) < 0; omega), ?_⟩, fun h => absurd hjn h⟩ B2.out
        show _ = (cf d[j]! (x1, x2) == 0)
        rw [HV.out]
      · have hjnz : decide ((j : Int) < (n : Int)) = false := decide_eq_false (by omega)
        have hjnn : decide (j < n) = false := decide_eq_false hjn
        go_wp2_with fail
        go_quiet (fail)
        have B2 : Aside (Below w.heap.size w (wr.drewN nq)) := below_drewN Bk.out nq
        go_wp2_with fail
        (try simp only [Exit.inBlock, Exit.then]); refine bodyPost_ret (results_tmp2 rfl _ _ _) rfl ?_
        exact FoundTo.mk j false rfl ⟨by omega, HI.out.1, fun h => absurd h hjn, fun _ => rfl⟩ B2.out

set_option maxHeartbeats 4000000 in
set_option maxRecDepth 1000000 in
theorem ask_found (cf : It → It → Int) (k s m0 m1 m2 : Int) (LC : ∀ x y W, Calls Try.prog 36 #[.agg #[.int .i64 k, .int .i64 s, .int .u64 m0, .int .u64 m1, .int .u64 m2], vIt x, vIt y] W fun e w' => e = .returned (.int .i64 (cf x y)) ∧ Below W.heap.size W w') (blk off cap n : Nat) (x1 x2 : Int) (y : It) (bl bo bx : Nat) (i : Nat) (hi : i < n) (hsz : n ≤ 2000) (W : World)
    (hK : BoxO W bo ⟨k, s, m0, m1, m2⟩) (hI : BoxI W bx x1 x2) (hL : W.cell? ⟨bl, 0, none⟩ = some (.slice (some ⟨blk, off, none⟩) n cap)) (e1 : W.cell? ⟨blk, off + i * 2, none⟩ = some (.int .i64 y.1) ∧ W.cell? ⟨blk, off + i * 2 + 1, none⟩ = some (.int .i64 y.2)) :
    Calls Try.prog 48 #[.int .i64 i, .pointer (some ⟨bo, 0, none⟩), .pointer (some ⟨bx, 0, none⟩), .pointer (some ⟨bl, 0, none⟩)] W fun e w' => e = .returned (.int .i64 (cf (x1, x2) y)) ∧ Below W.heap.size W w' := by
  obtain ⟨y1, y2⟩ := y
  obtain ⟨c, hcc⟩ : ∃ c, c = cf (x1, x2) (y1, y2) := ⟨_, rfl⟩
  have hl0 := LC (x1, x2) (y1, y2)
  rw [← hcc] at hl0 ⊢
  have hl : ∀ p : Regrown, Calls Try.prog 36 #[.agg #[.int .i64 k, .int .i64 s, .int .u64 m0, .int .u64 m1, .int .u64 m2], .agg #[.int .i64 x1, .int .i64 x2], .agg #[.int .i64 y1, .int .i64 y2]] (grow (redrawn W p.d) p.os) fun e w'' => e = .returned (.int .i64 c) ∧ ∃ p : Regrown, w'' = grow (redrawn W p.d) p.os := fun p => Calls.regrown_of (hl0 _)
  have q1 := cell_regrown e1.1
  have q2 := cell_regrown e1.2
  obtain ⟨_, i0, i1⟩ := hI
  have q3 := cell_regrown i0
  have q4 := cell_regrown i1
  obtain ⟨_, k0, k1, k2, k3, k4⟩ := hK
  have p0 := cell_regrown k0
  have p1 := cell_regrown k1
  have p2 := cell_regrown k2
  have p3 := cell_regrown k3
  have p4 := cell_regrown k4
  have p5 := cell_regrown hL
  dsimp only at q1 q2 p0 p1 p2 p3 p4
  have mixed : Try.prog.follows .mixedOrders = true := by kernel_rfl
  have bM : (i : Int) < (n : Int) := by omega
  have rM : IntKind.i64.wrap (i : Int) = (i : Int) := by rw [IntKind.wrap_i64]; omega
  clear LC hl0 hcc e1 i0 i1 k0 k1 k2 k3 k4 hL
  go_enter Try.func48, Try.ntmps48
  go_wp2_with fail
  refine wp_region_quiet_below (by assumption) (by kernel_rfl) ?_
  repeat' (quiet_step (with_reducible exact hl _))
  all_goals
    refine wpQuiet_nil ?_
    intro _ hw'
    obtain ⟨⟨nq, osq⟩, hw''⟩ := hw'
    subst hw''
  clear hl q1 q2 q3 q4 p0 p1 p2 p3 p4 p5
  go_wp2_with fail
  go_ret
  exact ⟨rfl, below_regrown _ _ _⟩

set_option maxHeartbeats 4000000 in
set_option maxRecDepth 1000000 in
theorem find_calls (c : Nat → Int) (caps : Array Value) (bo bx bl : Nat) (hcaps : caps = #[.pointer (some ⟨bo, 0, none⟩), .pointer (some ⟨bx, 0, none⟩), .pointer (some ⟨bl, 0, none⟩)]) (n : Nat) (hsz : n ≤ 2000) (w : World)
    (ask0 : ∀ (i : Nat) W, i < n → Below w.heap.size w W → Calls Try.prog 48 #[.int .i64 i, .pointer (some ⟨bo, 0, none⟩), .pointer (some ⟨bx, 0, none⟩), .pointer (some ⟨bl, 0, none⟩)] W fun e w' => e = .returned (.int .i64 (c i)) ∧ Below W.heap.size W w') :
    Calls Try.prog 47 #[.int .i64 n, .func (.func 48) #[] caps] w fun e w' => FoundTo w (fun i => 0 < c i) (fun i => c i == 0) n e w' := by
  subst hcaps
  have ask : Aside _ := ask0
  clear ask0
  go_enter Try.func47, Try.ntmps47
  go_wp2_with fail
  go_loopg [4, 6] n (fun g vi vj wr => ∃ i j : Nat, vi = .int .i64 i ∧ vj = .int .i64 j ∧ i ≤ j ∧ j ≤ n ∧ j - i ≤ g ∧ Aside (Below w.heap.size w wr) ∧ Aside ((0 < i → 0 < c (i - 1)) ∧ (j < n → ¬ 0 < c j)))
  case atStart => exact ⟨0, n, rfl, rfl, by omega, by omega, by omega, Below.refl _ _, ⟨fun h => absurd h (by omega), fun h => absurd h (by omega)⟩⟩
  case round =>
    obtain ⟨i, j, rfl, rfl, hij, hj, hg, Bk, HI⟩ := hrel
    by_cases hlt : i < j
    · have hltz : (i : Int) < (j : Int) := by omega
      obtain ⟨M, hM⟩ : ∃ M : Nat, M = (i + j) / 2 := ⟨_, rfl⟩
      have e1 : IntKind.i64.wrap ((i : Int) + (j : Int)) = (i : Int) + (j : Int) := by rw [IntKind.wrap_i64]; omega
      have e2 : IntKind.u64.wrap ((i : Int) + (j : Int)) = (i : Int) + (j : Int) := by rw [IntKind.wrap_u64]; omega
      have e3 : ((i : Int) + (j : Int)) / 2 = (M : Int) := by omega
      have hm1 : i ≤ M := by omega
      have hm2 : M < j := by omega
      clear hM
      have hq := ask.out M wr (by omega) Bk.out
      obtain ⟨r, hr⟩ : ∃ r, r = c M := ⟨_, rfl⟩
      rw [← hr] at hq
      have HV : Aside (c M = r) := hr.symm
      clear hr
      by_cases hcl : 0 < r
      · have hcd : decide (0 < r) = true := decide_eq_true hcl
        go_wp2_with fail
        refine hq.mono ?_
        rintro e w2 ⟨rfl, hb⟩
        have B2 : Aside (Below w.heap.size w w2) := Below.next Bk.out hb
        clear hb hq
        go_wp2_with fail
        go_roundg (j - (M + 1))
        case measure => omega
        case rel => exact ⟨M + 1, j, by go_num, rfl, by omega, by omega, Nat.le_refl _, B2, ⟨fun _ => by rw [Nat.add_sub_cancel, HV.out]; exact hcl, HI.out.2⟩⟩
      · have hcd : decide (0 < r) = false := decide_eq_false hcl
        go_wp2_with fail
        refine hq.mono ?_
        rintro e w2 ⟨rfl, hb⟩
        have B2 : Aside (Below w.heap.size w w2) := Below.next Bk.out hb
        clear hb hq
        go_wp2_with fail
        go_roundg (M - i)
        case measure => omega
        case rel => exact ⟨i, M, rfl, rfl, hm1, by omega, Nat.le_refl _, B2, ⟨HI.out.1, fun _ => by rw [HV.out]; exact hcl⟩⟩
    · have hltz : ¬ (i : Int) < (j : Int) := by omega
      obtain rfl : j = i := by omega
      by_cases hjn : j < n
      · have hjnz : (j : Int) < (n : Int) := by omega
        have hq := ask.out j wr hjn Bk.out
        obtain ⟨r, hr⟩ : ∃ r, r = c j := ⟨_, rfl⟩
        rw [← hr] at hq
        have HV : Aside (c j = r) := hr.symm
        clear hr
        go_wp2_with fail
        refine hq.mono ?_
        rintro e w2 ⟨rfl, hb⟩
        have B2 : Aside (Below w.heap.size w w2) := Below.next Bk.out hb
        clear hb hq
        go_wp2_with fail
        (try simp only [Exit.inBlock, Exit.then]); refine bodyPost_ret (results_tmp2 rfl _ _ _) rfl ?_
        refine FoundTo.mk j (r == 0) rfl ⟨by omega, HI.out.1, fun h => ⟨(by have := HI.out.2 h; show ¬ 0 < c j; omega), ?_⟩, fun h => absurd hjn h⟩ B2.out
        show _ = (c j == 0)
        rw [HV.out]
      · have hjnz : ¬ (j : Int) < (n : Int) := by omega
        go_wp2_with fail
        (try simp only [Exit.inBlock, Exit.then]); refine bodyPost_ret (results_tmp2 rfl _ _ _) rfl ?_
        exact FoundTo.mk j false rfl ⟨by omega, HI.out.1, fun h => absurd h hjn, fun _ => rfl⟩ Bk.out

set_option maxHeartbeats 4000000 in
set_option maxRecDepth 1000000 in
theorem found_0 (a : Option Addr) (cap n : Nat) (d : Array It) (o : Ordr) (x : It) (w : World) (h : Rd2 w a d) (hn : d.size = n) (hsz : n ≤ 2000) (h0 : 0 ≤ o.shift) (h63 : o.shift < 64) :
    Calls Try.prog 23 #[.int .i64 0, .slice a n cap, vOrd o, vIt x] w fun e w' => FoundTo w (fun i => cfO o d[i]! x < 0) (fun i => cfO o d[i]! x == 0) n e w' := by
  have LC := fun x y W => cmp_below o h0 h63 x y W
  have R0 : Aside (Rd2 w a d ∧ d.size = n) := ⟨h, hn⟩
  clear h hn h0 h63
  generalize cfO o = cf at LC ⊢
  obtain ⟨k, s, m0, m1, m2⟩ := o
  obtain ⟨x1, x2⟩ := x
  have hmf : ∀ (fn : Fn) (first cap : Array Value) (w : World), (Instr.makeFunc fn first cap).run Try.prog w = .ok (.func fn first cap) w := fun _ _ _ _ => rfl
  obtain ⟨U0, hU0⟩ : ∃ U, U = w.alloc (.cells #[.slice a n cap] 22) := ⟨_, rfl⟩
  obtain ⟨U1, hU1⟩ : ∃ U, U = U0.alloc (.cells #[.int .i64 k, .int .i64 s, .int .u64 m0, .int .u64 m1, .int .u64 m2] 26) := ⟨_, rfl⟩
  obtain ⟨U, hU⟩ : ∃ U, U = U1.alloc (.cells #[.int .i64 x1, .int .i64 x2] 34) := ⟨_, rfl⟩
  have b0 : Below w.heap.size w U0 := by rw [hU0]; exact below_alloc _ _
  have b1 : Below U0.heap.size U0 U1 := by rw [hU1]; exact below_alloc _ _
  have b2 : Below U1.heap.size U1 U := by rw [hU]; exact below_alloc _ _
  have g0 : U0.heap.size = w.heap.size + 1 := by rw [hU0]; simp
  have g1 : U1.heap.size = w.heap.size + 2 := by rw [hU1]; simp [g0]
  have n0 : U0.heap[w.heap.size]? = some (.cells #[.slice a n cap] 22 (0, 0)) := by rw [hU0]; exact heap_alloc_new _ _
  have B0 : Aside (Below w.heap.size w U) := Below.next (Below.next b0 b1) b2
  have K0 : Aside (BoxO U (w.heap.size + 1) ⟨k, s, m0, m1, m2⟩) := by show BoxO _ _ _; rw [← g0]; exact BoxO.keep (by rw [hU1]; exact boxO_new U0 ⟨k, s, m0, m1, m2⟩ _) b2
  have I0 : Aside (BoxI U (w.heap.size + 2) x1 x2) := by show BoxI _ _ _ _; rw [← g1, hU]; exact boxI_new _ _ _ _
  have L0 : U.cell? ⟨w.heap.size, 0, none⟩ = some (.slice a n cap) := (b2.cell (p := ⟨w.heap.size, 0, none⟩) (by dsimp only; omega)).trans ((b1.cell (p := ⟨w.heap.size, 0, none⟩) (by dsimp only; omega)).trans (by simp [World.cell?, n0]))
  have lw : w.heap.size < U.heap.size := by have := b2.size; omega
  have hc := bsf_calls _ cf LC a cap n d (x1, x2) U (R0.out.1.keep B0.out) R0.out.2 hsz
  clear LC
  clear b0 b1 b2 g0 g1 n0
  go_enter Try.func23, Try.ntmps23
  go_upto_region 1 with fail
  rw [← hU0, ← hU1, ← hU]
  clear hU hU1 hU0
  obtain ⟨_, k0, k1, k2, k3, k4⟩ := K0.out
  obtain ⟨_, i0, i1⟩ := I0.out
  go_wp2_with fail
  refine hc.mono ?_
  rintro e w2 ⟨P, b, rfl, hP, hb⟩
  have B2 : Aside (Below w.heap.size w w2) := Below.next B0.out hb
  have HP : Hid (FoundP (fun i => cf d[i]! (x1, x2) < 0) (fun i => cf d[i]! (x1, x2) == 0) n P b) := hP
  clear hb hP hc k0 k1 k2 k3 k4 i0 i1 L0 K0 I0 B0
  go_wp2_with fail
  (try simp only [Exit.inBlock, Exit.then]); refine bodyPost_ret (results_tmp2 rfl _ _ _) rfl ?_
  exact FoundTo.mk' P b rfl HP.out B2.out

set_option maxHeartbeats 4000000 in
set_option maxRecDepth 1000000 in
theorem found_1 (a : Option Addr) (cap n : Nat) (d : Array It) (o : Ordr) (x : It) (w : World) (h : Rd2 w a d) (hn : d.size = n) (hsz : n ≤ 2000) (h0 : 0 ≤ o.shift) (h63 : o.shift < 64) :
    Calls Try.prog 23 #[.int .i64 1, .slice a n cap, vOrd o, vIt x] w fun e w' => FoundTo w (fun i => 0 < cfO o x d[i]!) (fun i => cfO o x d[i]! == 0) n e w' := by
  have LC := fun x y W => cmp_below o h0 h63 x y W
  have R0 : Aside (Rd2 w a d ∧ d.size = n) := ⟨h, hn⟩
  clear h hn h0 h63
  generalize cfO o = cf at LC ⊢
  obtain ⟨k, s, m0, m1, m2⟩ := o
  obtain ⟨x1, x2⟩ := x
  have hmf : ∀ (fn : Fn) (first cap : Array Value) (w : World), (Instr.makeFunc fn first cap).run Try.prog w = .ok (.func fn first cap) w := fun _ _ _ _ => rfl
  obtain ⟨U0, hU0⟩ : ∃ U, U = w.alloc (.cells #[.slice a n cap] 22) := ⟨_, rfl⟩
  obtain ⟨U1, hU1⟩ : ∃ U, U = U0.alloc (.cells #[.int .i64 k, .int .i64 s, .int .u64 m0, .int .u64 m1, .int .u64 m2] 26) := ⟨_, rfl⟩
  obtain ⟨U, hU⟩ : ∃ U, U = U1.alloc (.cells #[.int .i64 x1, .int .i64 x2] 34) := ⟨_, rfl⟩
  have b0 : Below w.heap.size w U0 := by rw [hU0]; exact below_alloc _ _
  have b1 : Below U0.heap.size U0 U1 := by rw [hU1]; exact below_alloc _ _
  have b2 : Below U1.heap.size U1 U := by rw [hU]; exact below_alloc _ _
  have g0 : U0.heap.size = w.heap.size + 1 := by rw [hU0]; simp
  have g1 : U1.heap.size = w.heap.size + 2 := by rw [hU1]; simp [g0]
  have n0 : U0.heap[w.heap.size]? = some (.cells #[.slice a n cap] 22 (0, 0)) := by rw [hU0]; exact heap_alloc_new _ _
  have B0 : Aside (Below w.heap.size w U) := Below.next (Below.next b0 b1) b2
  have K0 : Aside (BoxO U (w.heap.size + 1) ⟨k, s, m0, m1, m2⟩) := by show BoxO _ _ _; rw [← g0]; exact BoxO.keep (by rw [hU1]; exact boxO_new U0 ⟨k, s, m0, m1, m2⟩ _) b2
  have I0 : Aside (BoxI U (w.heap.size + 2) x1 x2) := by show BoxI _ _ _ _; rw [← g1, hU]; exact boxI_new _ _ _ _
  have L0 : U.cell? ⟨w.heap.size, 0, none⟩ = some (.slice a n cap) := (b2.cell (p := ⟨w.heap.size, 0, none⟩) (by dsimp only; omega)).trans ((b1.cell (p := ⟨w.heap.size, 0, none⟩) (by dsimp only; omega)).trans (by simp [World.cell?, n0]))
  have lw : w.heap.size < U.heap.size := by have := b2.size; omega
  have hc := find_calls (fun i => cf (x1, x2) d[i]!) _ (w.heap.size + 1) (w.heap.size + 2) w.heap.size rfl n hsz U (fun i W hi hW => by
    obtain ⟨blk, off, rfl, hbl, hcl⟩ := R0.out.1 (by rw [R0.out.2]; omega)
    have e1 := hcl i (by rw [R0.out.2]; exact hi)
    have BW := Below.next B0.out hW
    exact ask_found cf k s m0 m1 m2 LC blk off cap n x1 x2 d[i]! w.heap.size (w.heap.size + 1) (w.heap.size + 2) i hi hsz W (K0.out.keep hW) (I0.out.keep hW) ((hW.cell (p := ⟨w.heap.size, 0, none⟩) lw).trans L0) ⟨(BW.cell (p := ⟨blk, _, none⟩) hbl).trans e1.1, (BW.cell (p := ⟨blk, _, none⟩) hbl).trans e1.2⟩)
  clear LC
  clear b0 b1 b2 g0 g1 n0
  go_enter Try.func23, Try.ntmps23
  go_upto_region 1 with fail
  rw [← hU0, ← hU1, ← hU]
  clear hU hU1 hU0
  obtain ⟨_, k0, k1, k2, k3, k4⟩ := K0.out
  obtain ⟨_, i0, i1⟩ := I0.out
  go_wp2_with fail
  refine hc.mono ?_
  rintro e w2 ⟨P, b, rfl, hP, hb⟩
  have B2 : Aside (Below w.heap.size w w2) := Below.next B0.out hb
  have HP : Hid (FoundP (fun i => 0 < cf (x1, x2) d[i]!) (fun i => cf (x1, x2) d[i]! == 0) n P b) := hP
  clear hb hP hc k0 k1 k2 k3 k4 i0 i1 L0 K0 I0 B0
  go_wp2_with fail
  (try simp only [Exit.inBlock, Exit.then]); refine bodyPost_ret (results_tmp2 rfl _ _ _) rfl ?_
  exact FoundTo.mk' P b rfl HP.out B2.out
end Go.Proofs.Ytglgmkikegbchaa
