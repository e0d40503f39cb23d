/- spec.None, Alike, before, Least. -/
import Derived.Test.YtglgmkikegbchaaaConv
import Derived.Test.YtglgmkikegbchaaaMinMax
namespace Go.Proofs.Ytglgmkikegbchaa
open Go.RowKit Go.Sort

set_option maxHeartbeats 2000000 in
set_option maxRecDepth 1000000 in
theorem none_calls (x : Nat) (w : World) : Calls Try.prog 26 #[.int .u64 (x : Int)] w fun e w' => e = .returned (.bool (nanF x)) ∧ w' = w := by
  have hf := frombits_run x
  go_enter Try.func26, Try.ntmps26
  go_wp2_with fail
  go_ret
  exact ⟨rfl, rfl⟩

set_option maxHeartbeats 2000000 in
set_option maxRecDepth 1000000 in
theorem alike_F (x y : Nat) (h : (ordF x y == some .eq) = true) (w : World) : Calls Try.prog 27 #[.bool true, .int .u64 (x : Int), .int .u64 (y : Int)] w fun e w' => e = .returned (.bool true) ∧ w' = w := by
  have hf := frombits_run x
  have hg := frombits_run y
  have HH : Aside _ := h
  clear h
  go_enter Try.func27, Try.ntmps27
  go_wp2_with fail
  go_ret
  exact ⟨congrArg (fun t => Ending.returned (.bool t)) HH.out, rfl⟩
set_option maxHeartbeats 2000000 in
set_option maxRecDepth 1000000 in
theorem alike_I (x : Nat) (w : World) : Calls Try.prog 27 #[.bool false, .int .u64 (x : Int), .int .u64 (x : Int)] w fun e w' => e = .returned (.bool true) ∧ w' = w := by
  go_enter Try.func27, Try.ntmps27
  go_wp2_with fail
  go_ret
  exact ⟨rfl, rfl⟩
theorem toI_lt (x y : Nat) : decide (wrap64 (x : Int) < wrap64 (y : Int)) = decide (toI x < toI y) := by
  unfold toI wrap64
  rw [IntKind.wrap_i64, IntKind.wrap_i64]
set_option maxHeartbeats 2000000 in
set_option maxRecDepth 1000000 in
theorem before_I (x y : Nat) (w : World) : Calls Try.prog 57 #[.bool false, .int .u64 (x : Int), .int .u64 (y : Int)] w fun e w' => e = .returned (.bool (decide (toI x < toI y))) ∧ w' = w := by
  go_enter Try.func57, Try.ntmps57
  go_wp2_with fail
  go_ret
  exact ⟨congrArg (fun t => Ending.returned (.bool t)) (toI_lt x y), rfl⟩
theorem ltFl_eq (x y : Nat) : ltFl x y = ((ordF x y == some .lt) || ((ordF x x != some .eq) && (ordF y y == some .eq))) := by
  unfold ltFl nanF
  rw [Bool.or_comm]
  simp [bne]
set_option maxHeartbeats 2000000 in
set_option maxRecDepth 1000000 in
theorem before_F (x y : Nat) (w : World) : Calls Try.prog 57 #[.bool true, .int .u64 (x : Int), .int .u64 (y : Int)] w fun e w' => e = .returned (.bool (ltFl x y)) ∧ w' = w := by
  have hf := frombits_run x
  have hg := frombits_run y
  go_enter Try.func57, Try.ntmps57
  go_wp2_with fail
  all_goals
    go_ret
    refine ⟨?_, rfl⟩
    rw [ltFl_eq]
    simp_all [ordF]
/-- What Least has found among the first i. -/
def LeastOf (μ : Nat → Int) (gr : Bool) (d : Array Nat) (i m : Nat) : Prop := (i = 0 ∨ ∃ j, j < i ∧ m = d[j]!) ∧ ∀ j, j < i → if gr then μ d[j]! ≤ μ m else μ m ≤ μ d[j]!
/-- What Least tells. -/
def LeastTo (w : World) (n : Nat) (fl : Bool) (d : Array Nat) (P : Nat → Prop) (e : Ending) (w' : World) : Prop := ∃ (m : Nat) (b : Bool), e = .returned (.tuple #[.int .u64 (m : Int), .bool b]) ∧ ((b = true → fl = true ∧ ∃ j, j < n ∧ nanF d[j]! = true) ∧ (b = false → (fl = true → ∀ j, j < n → nanF d[j]! = false) ∧ P m)) ∧ w' = w
theorem least_zero {μ : Nat → Int} {gr : Bool} {d : Array Nat} {i x : Nat} (hx : x = d[i]!) (h : i = 0) : LeastOf μ gr d (i + 1) x := by
  subst h
  refine ⟨Or.inr ⟨0, by omega, hx⟩, fun j hj => ?_⟩
  obtain rfl : j = 0 := by omega
  rw [← hx]
  cases gr <;> simp
theorem least_yes {μ : Nat → Int} {gr : Bool} {d : Array Nat} {i m x : Nat} (hx : x = d[i]!) (h : LeastOf μ gr d i m) (hc : (if gr then decide (μ m < μ x) else decide (μ x < μ m)) = true) : LeastOf μ gr d (i + 1) x := by
  refine ⟨Or.inr ⟨i, by omega, hx⟩, fun j hj => ?_⟩
  rcases Nat.lt_or_ge j i with hj' | hj'
  · have := h.2 j hj'
    cases gr <;> simp at hc this ⊢ <;> omega
  · obtain rfl : j = i := by omega
    rw [← hx]
    cases gr <;> simp
theorem least_no {μ : Nat → Int} {gr : Bool} {d : Array Nat} {i m x : Nat} (hx : x = d[i]!) (h : LeastOf μ gr d i m) (hi : ¬ i = 0) (hc : (if gr then decide (μ m < μ x) else decide (μ x < μ m)) = false) : LeastOf μ gr d (i + 1) m := by
  refine ⟨Or.inr ?_, fun j hj => ?_⟩
  · rcases h.1 with h1 | ⟨j, h1, h2⟩
    · exact absurd h1 hi
    · exact ⟨j, by omega, h2⟩
  · rcases Nat.lt_or_ge j i with hj' | hj'
    · exact h.2 j hj'
    · obtain rfl : j = i := by omega
      rw [← hx]
      cases gr <;> simp at hc ⊢ <;> omega

set_option maxHeartbeats 4000000 in
set_option maxRecDepth 1000000 in
theorem least_Fl (a : Option Addr) (cap n : Nat) (d : Array Nat) (w : World) (h : RdU w a d) (hn : d.size = n) (hsz : n ≤ 2000) : Calls Try.prog 25 #[.bool true, .slice a n cap, .bool false] w (LeastTo w n true d (LeastOf muF false d n)) := by
  have H : Aside (RdU w a d ∧ d.size = n) := ⟨h, hn⟩
  clear h hn
  go_enter Try.func25, Try.ntmps25
  go_wp2_with fail
  go_loopg [6, 13] n (fun gg vm vi wr => ∃ (m i : Nat), vm = .int .u64 (m : Int) ∧ vi = .int .i64 i ∧ i ≤ n ∧ n - i ≤ gg ∧ Aside (LeastOf muF false d i m) ∧ Aside (∀ j, j < i → nanF d[j]! = false) ∧ wr = w)
  case atStart => exact ⟨0, 0, rfl, rfl, Nat.zero_le _, by omega, ⟨Or.inl rfl, fun j hj => absurd hj (by omega)⟩, fun j hj => absurd hj (by omega), rfl⟩
  case round =>
    obtain ⟨m, i, rfl, rfl, hin, hg, HI, HN, rfl⟩ := hrel
    by_cases hlt : i < n
    · have hltz : (i : Int) < (n : Int) := by omega
      obtain ⟨blk, off, rfl, hbl, hc⟩ := H.out.1 (by rw [H.out.2]; omega)
      obtain ⟨x, hx⟩ : ∃ x, x = d[i]! := ⟨_, rfl⟩
      have c1 := hc i (by rw [H.out.2]; exact hlt)
      rw [← hx] at c1
      have HX : Aside (x = d[i]!) := hx
      have hf := frombits_run x
      clear hx hc
      cases hnan : nanF x with
      | true =>
        have hnb : (FloatKind.f64.format.order x x != some Ordering.eq) = true := hnan
        have HE : Aside (∃ j, j < n ∧ nanF d[j]! = true) := ⟨i, hlt, by rw [← HX.out]; exact hnan⟩
        clear hnan HI HN HX
        go_wp2_with fail
        (try simp only [Exit.inBlock, Exit.then]); refine bodyPost_ret (results_tmp2 rfl _ _ _) rfl ?_
        exact ⟨0, true, rfl, ⟨fun _ => ⟨rfl, HE.out⟩, fun h => absurd h (by decide)⟩, rfl⟩
      | false =>
        have hnb : (FloatKind.f64.format.order x x != some Ordering.eq) = false := hnan
        by_cases hi0 : i = 0
        · have hz : ((i : Int) == 0) = true := by rw [hi0]; rfl
          have I2 : Aside (LeastOf muF false d (i + 1) x) := least_zero HX.out hi0
          have N2 : Aside (∀ j, j < i + 1 → nanF d[j]! = false) := fun j hj => by
            rcases Nat.lt_or_ge j i with h | h
            · exact HN.out j h
            · obtain rfl : j = i := by omega
              rw [← HX.out]; exact hnan
          clear HN hnan
          clear HI HX hi0
          go_wp2_with fail
          go_roundg (n - (i + 1))
          case measure => omega
          case rel => exact ⟨x, i + 1, rfl, by go_num, by omega, Nat.le_refl _, I2, N2, rfl⟩
        · have hz : ((i : Int) == 0) = false := beq_eq_false_iff_ne.2 (by omega)
          obtain ⟨c, hcc⟩ : ∃ c, c = decide (muF x < muF m) := ⟨_, rfl⟩
          have hbf := before_F x m wr
          rw [ltFl_mu, ← hcc] at hbf
          cases c with
          | true =>
            have hcc' : Aside _ := hcc
            clear hcc
            go_wp2_with fail
            refine hbf.mono ?_
            rintro e w' ⟨rfl, rfl⟩
            clear hbf
            have I2 : Aside (LeastOf muF false d (i + 1) x) := least_yes HX.out HI.out hcc'.out.symm
            have N2 : Aside (∀ j, j < i + 1 → nanF d[j]! = false) := fun j hj => by
              rcases Nat.lt_or_ge j i with h | h
              · exact HN.out j h
              · obtain rfl : j = i := by omega
                rw [← HX.out]; exact hnan
            clear HN hnan
            clear HI HX
            go_wp2_with fail
            go_roundg (n - (i + 1))
            case measure => omega
            case rel => exact ⟨x, i + 1, rfl, by go_num, by omega, Nat.le_refl _, I2, N2, rfl⟩
          | false =>
            have hcc' : Aside _ := hcc
            clear hcc
            go_wp2_with fail
            refine hbf.mono ?_
            rintro e w' ⟨rfl, rfl⟩
            clear hbf
            have I2 : Aside (LeastOf muF false d (i + 1) m) := least_no HX.out HI.out hi0 hcc'.out.symm
            have N2 : Aside (∀ j, j < i + 1 → nanF d[j]! = false) := fun j hj => by
              rcases Nat.lt_or_ge j i with h | h
              · exact HN.out j h
              · obtain rfl : j = i := by omega
                rw [← HX.out]; exact hnan
            clear HN hnan
            clear HI HX
            go_wp2_with fail
            go_roundg (n - (i + 1))
            case measure => omega
            case rel => exact ⟨m, i + 1, rfl, by go_num, by omega, Nat.le_refl _, I2, N2, rfl⟩
    · have hltz : ¬ (i : Int) < (n : Int) := by omega
      have e : i = n := by omega
      subst e
      go_wp2_with fail
      (try simp only [Exit.inBlock, Exit.then]); refine bodyPost_ret (results_tmp2 rfl _ _ _) rfl ?_
      exact ⟨m, false, rfl, ⟨fun h => absurd h (by decide), fun _ => ⟨fun _ => HN.out, HI.out⟩⟩, rfl⟩

set_option maxHeartbeats 4000000 in
set_option maxRecDepth 1000000 in
theorem least_Fg (a : Option Addr) (cap n : Nat) (d : Array Nat) (w : World) (h : RdU w a d) (hn : d.size = n) (hsz : n ≤ 2000) : Calls Try.prog 25 #[.bool true, .slice a n cap, .bool true] w (LeastTo w n true d (LeastOf muF true d n)) := by
  have H : Aside (RdU w a d ∧ d.size = n) := ⟨h, hn⟩
  clear h hn
  go_enter Try.func25, Try.ntmps25
  go_wp2_with fail
  go_loopg [6, 13] n (fun gg vm vi wr => ∃ (m i : Nat), vm = .int .u64 (m : Int) ∧ vi = .int .i64 i ∧ i ≤ n ∧ n - i ≤ gg ∧ Aside (LeastOf muF true d i m) ∧ Aside (∀ j, j < i → nanF d[j]! = false) ∧ wr = w)
  case atStart => exact ⟨0, 0, rfl, rfl, Nat.zero_le _, by omega, ⟨Or.inl rfl, fun j hj => absurd hj (by omega)⟩, fun j hj => absurd hj (by omega), rfl⟩
  case round =>
    obtain ⟨m, i, rfl, rfl, hin, hg, HI, HN, rfl⟩ := hrel
    by_cases hlt : i < n
    · have hltz : (i : Int) < (n : Int) := by omega
      obtain ⟨blk, off, rfl, hbl, hc⟩ := H.out.1 (by rw [H.out.2]; omega)
      obtain ⟨x, hx⟩ : ∃ x, x = d[i]! := ⟨_, rfl⟩
      have c1 := hc i (by rw [H.out.2]; exact hlt)
      rw [← hx] at c1
      have HX : Aside (x = d[i]!) := hx
      have hf := frombits_run x
      clear hx hc
      cases hnan : nanF x with
      | true =>
        have hnb : (FloatKind.f64.format.order x x != some Ordering.eq) = true := hnan
        have HE : Aside (∃ j, j < n ∧ nanF d[j]! = true) := ⟨i, hlt, by rw [← HX.out]; exact hnan⟩
        clear hnan HI HN HX
        go_wp2_with fail
        (try simp only [Exit.inBlock, Exit.then]); refine bodyPost_ret (results_tmp2 rfl _ _ _) rfl ?_
        exact ⟨0, true, rfl, ⟨fun _ => ⟨rfl, HE.out⟩, fun h => absurd h (by decide)⟩, rfl⟩
      | false =>
        have hnb : (FloatKind.f64.format.order x x != some Ordering.eq) = false := hnan
        by_cases hi0 : i = 0
        · have hz : ((i : Int) == 0) = true := by rw [hi0]; rfl
          have I2 : Aside (LeastOf muF true d (i + 1) x) := least_zero HX.out hi0
          have N2 : Aside (∀ j, j < i + 1 → nanF d[j]! = false) := fun j hj => by
            rcases Nat.lt_or_ge j i with h | h
            · exact HN.out j h
            · obtain rfl : j = i := by omega
              rw [← HX.out]; exact hnan
          clear HN hnan
          clear HI HX hi0
          go_wp2_with fail
          go_roundg (n - (i + 1))
          case measure => omega
          case rel => exact ⟨x, i + 1, rfl, by go_num, by omega, Nat.le_refl _, I2, N2, rfl⟩
        · have hz : ((i : Int) == 0) = false := beq_eq_false_iff_ne.2 (by omega)
          obtain ⟨c, hcc⟩ : ∃ c, c = decide (muF m < muF x) := ⟨_, rfl⟩
          have hbf := before_F m x wr
          rw [ltFl_mu, ← hcc] at hbf
          cases c with
          | true =>
            have hcc' : Aside _ := hcc
            clear hcc
            go_wp2_with fail
            refine hbf.mono ?_
            rintro e w' ⟨rfl, rfl⟩
            clear hbf
            have I2 : Aside (LeastOf muF true d (i + 1) x) := least_yes HX.out HI.out hcc'.out.symm
            have N2 : Aside (∀ j, j < i + 1 → nanF d[j]! = false) := fun j hj => by
              rcases Nat.lt_or_ge j i with h | h
              · exact HN.out j h
              · obtain rfl : j = i := by omega
                rw [← HX.out]; exact hnan
            clear HN hnan
            clear HI HX
            go_wp2_with fail
            go_roundg (n - (i + 1))
            case measure => omega
            case rel => exact ⟨x, i + 1, rfl, by go_num, by omega, Nat.le_refl _, I2, N2, rfl⟩
          | false =>
            have hcc' : Aside _ := hcc
            clear hcc
            go_wp2_with fail
            refine hbf.mono ?_
            rintro e w' ⟨rfl, rfl⟩
            clear hbf
            have I2 : Aside (LeastOf muF true d (i + 1) m) := least_no HX.out HI.out hi0 hcc'.out.symm
            have N2 : Aside (∀ j, j < i + 1 → nanF d[j]! = false) := fun j hj => by
              rcases Nat.lt_or_ge j i with h | h
              · exact HN.out j h
              · obtain rfl : j = i := by omega
                rw [← HX.out]; exact hnan
            clear HN hnan
            clear HI HX
            go_wp2_with fail
            go_roundg (n - (i + 1))
            case measure => omega
            case rel => exact ⟨m, i + 1, rfl, by go_num, by omega, Nat.le_refl _, I2, N2, rfl⟩
    · have hltz : ¬ (i : Int) < (n : Int) := by omega
      have e : i = n := by omega
      subst e
      go_wp2_with fail
      (try simp only [Exit.inBlock, Exit.then]); refine bodyPost_ret (results_tmp2 rfl _ _ _) rfl ?_
      exact ⟨m, false, rfl, ⟨fun h => absurd h (by decide), fun _ => ⟨fun _ => HN.out, HI.out⟩⟩, rfl⟩

set_option maxHeartbeats 4000000 in
set_option maxRecDepth 1000000 in
theorem least_Il (a : Option Addr) (cap n : Nat) (d : Array Nat) (w : World) (h : RdU w a d) (hn : d.size = n) (hsz : n ≤ 2000) : Calls Try.prog 25 #[.bool false, .slice a n cap, .bool false] w (LeastTo w n false d (LeastOf toI false d n)) := by
  have H : Aside (RdU w a d ∧ d.size = n) := ⟨h, hn⟩
  clear h hn
  go_enter Try.func25, Try.ntmps25
  go_wp2_with fail
  go_loopg [6, 13] n (fun gg vm vi wr => ∃ (m i : Nat), vm = .int .u64 (m : Int) ∧ vi = .int .i64 i ∧ i ≤ n ∧ n - i ≤ gg ∧ Aside (LeastOf toI false d i m) ∧ Aside (True) ∧ wr = w)
  case atStart => exact ⟨0, 0, rfl, rfl, Nat.zero_le _, by omega, ⟨Or.inl rfl, fun j hj => absurd hj (by omega)⟩, trivial, rfl⟩
  case round =>
    obtain ⟨m, i, rfl, rfl, hin, hg, HI, HN, rfl⟩ := hrel
    by_cases hlt : i < n
    · have hltz : (i : Int) < (n : Int) := by omega
      obtain ⟨blk, off, rfl, hbl, hc⟩ := H.out.1 (by rw [H.out.2]; omega)
      obtain ⟨x, hx⟩ : ∃ x, x = d[i]! := ⟨_, rfl⟩
      have c1 := hc i (by rw [H.out.2]; exact hlt)
      rw [← hx] at c1
      have HX : Aside (x = d[i]!) := hx
      have hf := frombits_run x
      clear hx hc
      by_cases hi0 : i = 0
      · have hz : ((i : Int) == 0) = true := by rw [hi0]; rfl
        have I2 : Aside (LeastOf toI false d (i + 1) x) := least_zero HX.out hi0
        clear HI HX hi0
        go_wp2_with fail
        go_roundg (n - (i + 1))
        case measure => omega
        case rel => exact ⟨x, i + 1, rfl, by go_num, by omega, Nat.le_refl _, I2, trivial, rfl⟩
      · have hz : ((i : Int) == 0) = false := beq_eq_false_iff_ne.2 (by omega)
        obtain ⟨c, hcc⟩ : ∃ c, c = decide (toI x < toI m) := ⟨_, rfl⟩
        have hbf := before_I x m wr
        rw [← hcc] at hbf
        cases c with
        | true =>
          have hcc' : Aside _ := hcc
          clear hcc
          go_wp2_with fail
          refine hbf.mono ?_
          rintro e w' ⟨rfl, rfl⟩
          clear hbf
          have I2 : Aside (LeastOf toI false d (i + 1) x) := least_yes HX.out HI.out hcc'.out.symm
          clear HI HX
          go_wp2_with fail
          go_roundg (n - (i + 1))
          case measure => omega
          case rel => exact ⟨x, i + 1, rfl, by go_num, by omega, Nat.le_refl _, I2, trivial, rfl⟩
        | false =>
          have hcc' : Aside _ := hcc
          clear hcc
          go_wp2_with fail
          refine hbf.mono ?_
          rintro e w' ⟨rfl, rfl⟩
          clear hbf
          have I2 : Aside (LeastOf toI false d (i + 1) m) := least_no HX.out HI.out hi0 hcc'.out.symm
          clear HI HX
          go_wp2_with fail
          go_roundg (n - (i + 1))
          case measure => omega
          case rel => exact ⟨m, i + 1, rfl, by go_num, by omega, Nat.le_refl _, I2, trivial, rfl⟩
    · have hltz : ¬ (i : Int) < (n : Int) := by omega
      have e : i = n := by omega
      subst e
      go_wp2_with fail
      (try simp only [Exit.inBlock, Exit.then]); refine bodyPost_ret (results_tmp2 rfl _ _ _) rfl ?_
      exact ⟨m, false, rfl, ⟨fun h => absurd h (by decide), fun _ => ⟨fun h => absurd h (by decide), HI.out⟩⟩, rfl⟩

set_option maxHeartbeats 4000000 in
set_option maxRecDepth 1000000 in
theorem least_Ig (a : Option Addr) (cap n : Nat) (d : Array Nat) (w : World) (h : RdU w a d) (hn : d.size = n) (hsz : n ≤ 2000) : Calls Try.prog 25 #[.bool false, .slice a n cap, .bool true] w (LeastTo w n false d (LeastOf toI true d n)) := by
  have H : Aside (RdU w a d ∧ d.size = n) := ⟨h, hn⟩
  clear h hn
  go_enter Try.func25, Try.ntmps25
  go_wp2_with fail
  go_loopg [6, 13] n (fun gg vm vi wr => ∃ (m i : Nat), vm = .int .u64 (m : Int) ∧ vi = .int .i64 i ∧ i ≤ n ∧ n - i ≤ gg ∧ Aside (LeastOf toI true d i m) ∧ Aside (True) ∧ wr = w)
  case atStart => exact ⟨0, 0, rfl, rfl, Nat.zero_le _, by omega, ⟨Or.inl rfl, fun j hj => absurd hj (by omega)⟩, trivial, rfl⟩
  case round =>
    obtain ⟨m, i, rfl, rfl, hin, hg, HI, HN, rfl⟩ := hrel
    by_cases hlt : i < n
    · have hltz : (i : Int) < (n : Int) := by omega
      obtain ⟨blk, off, rfl, hbl, hc⟩ := H.out.1 (by rw [H.out.2]; omega)
      obtain ⟨x, hx⟩ : ∃ x, x = d[i]! := ⟨_, rfl⟩
      have c1 := hc i (by rw [H.out.2]; exact hlt)
      rw [← hx] at c1
      have HX : Aside (x = d[i]!) := hx
      have hf := frombits_run x
      clear hx hc
      by_cases hi0 : i = 0
      · have hz : ((i : Int) == 0) = true := by rw [hi0]; rfl
        have I2 : Aside (LeastOf toI true d (i + 1) x) := least_zero HX.out hi0
        clear HI HX hi0
        go_wp2_with fail
        go_roundg (n - (i + 1))
        case measure => omega
        case rel => exact ⟨x, i + 1, rfl, by go_num, by omega, Nat.le_refl _, I2, trivial, rfl⟩
      · have hz : ((i : Int) == 0) = false := beq_eq_false_iff_ne.2 (by omega)
        obtain ⟨c, hcc⟩ : ∃ c, c = decide (toI m < toI x) := ⟨_, rfl⟩
        have hbf := before_I m x wr
        rw [← hcc] at hbf
        cases c with
        | true =>
          have hcc' : Aside _ := hcc
          clear hcc
          go_wp2_with fail
          refine hbf.mono ?_
          rintro e w' ⟨rfl, rfl⟩
          clear hbf
          have I2 : Aside (LeastOf toI true d (i + 1) x) := least_yes HX.out HI.out hcc'.out.symm
          clear HI HX
          go_wp2_with fail
          go_roundg (n - (i + 1))
          case measure => omega
          case rel => exact ⟨x, i + 1, rfl, by go_num, by omega, Nat.le_refl _, I2, trivial, rfl⟩
        | false =>
          have hcc' : Aside _ := hcc
          clear hcc
          go_wp2_with fail
          refine hbf.mono ?_
          rintro e w' ⟨rfl, rfl⟩
          clear hbf
          have I2 : Aside (LeastOf toI true d (i + 1) m) := least_no HX.out HI.out hi0 hcc'.out.symm
          clear HI HX
          go_wp2_with fail
          go_roundg (n - (i + 1))
          case measure => omega
          case rel => exact ⟨m, i + 1, rfl, by go_num, by omega, Nat.le_refl _, I2, trivial, rfl⟩
    · have hltz : ¬ (i : Int) < (n : Int) := by omega
      have e : i = n := by omega
      subst e
      go_wp2_with fail
      (try simp only [Exit.inBlock, Exit.then]); refine bodyPost_ret (results_tmp2 rfl _ _ _) rfl ?_
      exact ⟨m, false, rfl, ⟨fun h => absurd h (by decide), fun _ => ⟨fun h => absurd h (by decide), HI.out⟩⟩, rfl⟩
end Go.Proofs.Ytglgmkikegbchaa
