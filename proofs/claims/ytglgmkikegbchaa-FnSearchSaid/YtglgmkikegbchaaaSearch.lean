/- sort.Search over a list of bools. -/
import Derived.Test.YtglgmkikegbchaaWorks
namespace Go.Proofs.Ytglgmkikegbchaa
open Go.RowKit Go.Sort

/-- A slice of bools that is read. -/
def RdB (w : World) (a : Option Addr) (d : Array Bool) : Prop := 0 < d.size → ∃ blk off, a = some ⟨blk, off, none⟩ ∧ blk < w.heap.size ∧ ∀ i, i < d.size → w.cell? ⟨blk, off + i, none⟩ = some (.bool d[i]!)
theorem RdB.below {B : Nat} {w w' : World} {a : Option Addr} {d : Array Bool} (h : RdB w a d) (hb : Below B w w') (hB : w.heap.size ≤ B) : RdB w' a d := fun h0 => by
  obtain ⟨blk, off, e, hl, hc⟩ := h h0
  exact ⟨blk, off, e, Nat.lt_of_lt_of_le hl hb.size, fun i hi => (hb.cell (p := ⟨blk, off + i, none⟩) (Nat.lt_of_lt_of_le hl hB)).trans (hc i hi)⟩

set_option maxHeartbeats 2000000 in
set_option maxRecDepth 1000000 in
theorem ask_calls (a : Option Addr) (cap : Nat) (d : Array Bool) (w : World) (p : Addr) (h : RdB w a d) (hp : w.cell? p = some (.slice a d.size cap)) (i : Nat) (hi : i < d.size) (hsz : d.size ≤ 2000) :
    Calls Try.prog 43 #[.int .i64 i, .pointer (some p)] w fun e w' => e = .returned (.bool d[i]!) ∧ w' = w := by
  obtain ⟨blk, off, rfl, _, hc⟩ := h (by omega)
  have c1 := hc i hi
  generalize d[i]! = b at c1 ⊢
  have hlt : (i : Int) < (d.size : Int) := by omega
  obtain ⟨n, hn⟩ : ∃ n, n = d.size := ⟨_, rfl⟩
  rw [← hn] at hp hlt
  clear hc h hn hsz hi
  go_enter Try.func43, Try.ntmps43
  go_wp2_with fail
  go_ret
  exact ⟨rfl, rfl⟩

/-- The place that is found: the invariant of the search. -/
def Sound (d : Array Bool) (k : Nat) : Prop := k ≤ d.size ∧ (k < d.size → d[k]! = true) ∧ (0 < k → d[k - 1]! = false)

set_option maxHeartbeats 2000000 in
set_option maxRecDepth 1000000 in
theorem search_calls (a : Option Addr) (cap n : Nat) (d : Array Bool) (w : World) (p : Addr) (h : RdB w a d) (hp : w.cell? p = some (.slice a n cap)) (hn : d.size = n) (hsz : n ≤ 2000) :
    Calls Try.prog 42 #[.int .i64 n, .func (.func 43) #[] #[.pointer (some p)]] w fun e w' => ∃ k : Nat, e = .returned (.int .i64 k) ∧ Sound d k ∧ w' = w := by
  have ask : Aside (∀ i, i < n → Calls Try.prog 43 #[.int .i64 i, .pointer (some p)] w fun e w' => e = .returned (.bool d[i]!) ∧ w' = w) := fun i hi => ask_calls a cap d w p h (by rw [hn]; exact hp) i (by omega) (by omega)
  have hn' : Aside (d.size = n) := hn
  clear h hp hn
  go_enter Try.func42, Try.ntmps42
  go_wp2_with fail
  go_loopg [5, 6] n (fun g vi vj wr => ∃ (i j : Nat), vi = .int .i64 i ∧ vj = .int .i64 j ∧ i ≤ j ∧ j ≤ n ∧ j - i ≤ g ∧ Aside ((0 < i → d[i - 1]! = false) ∧ (j < n → d[j]! = true)) ∧ wr = w)
  case atStart => exact ⟨0, n, rfl, rfl, by omega, by omega, by omega, ⟨fun h => absurd h (by omega), fun h => absurd h (by omega)⟩, rfl⟩
  case round =>
    obtain ⟨i, j, rfl, rfl, hij, hj, hg, HI, rfl⟩ := hrel
    by_cases hlt : i < j
    · have hltz : (i : Int) < (j : Int) := by omega
      obtain ⟨m, hm⟩ : ∃ m : Nat, m = (i + j) / 2 := ⟨_, rfl⟩
      have hq := ask.out m (by omega)
      obtain ⟨b, hb⟩ : ∃ b, b = d[m]! := ⟨_, rfl⟩
      rw [← hb] at hq
      have HB : Aside (d[m]! = b) := hb.symm
      clear hb
      have e1 : IntKind.i64.wrap ((i : Int) + (j : Int)) = (i : Int) + (j : Int) := by rw [IntKind.wrap_i64]; omega
      have e2 : IntKind.u64.wrap ((i : Int) + (j : Int)) = (i : Int) + (j : Int) := by rw [IntKind.wrap_u64]; omega
      have e3 : ((i : Int) + (j : Int)) / 2 = (m : Int) := by omega
      have hm1 : i ≤ m := by omega
      have hm2 : m < j := by omega
      clear hm
      cases b with
      | true =>
        go_wp2_with fail
        refine hq.mono ?_
        rintro e w' ⟨rfl, rfl⟩
        go_wp2_with fail
        go_roundg (m - i)
        case measure => omega
        case rel => exact ⟨i, m, rfl, rfl, by omega, by omega, by omega, ⟨HI.out.1, fun _ => HB.out⟩, rfl⟩
      | false =>
        go_wp2_with fail
        refine hq.mono ?_
        rintro e w' ⟨rfl, rfl⟩
        go_wp2_with fail
        go_roundg (j - (m + 1))
        case measure => omega
        case rel => exact ⟨m + 1, j, by go_num, rfl, by omega, by omega, by omega, ⟨fun _ => HB.out, HI.out.2⟩, rfl⟩
    · have hltz : ¬ (i : Int) < (j : Int) := by omega
      have e0 : i = j := by omega
      subst e0
      go_wp2_with fail
      go_ret
      exact ⟨i, rfl, ⟨by rw [hn'.out]; exact hj, fun h => HI.out.2 (by rw [← hn'.out]; exact h), HI.out.1⟩, rfl⟩

set_option maxHeartbeats 2000000 in
set_option maxRecDepth 1000000 in
theorem implSearch_calls (a : Option Addr) (cap n : Nat) (d : Array Bool) (w : World) (h : RdB w a d) (hn : d.size = n) (hsz : n ≤ 2000) :
    Calls Try.prog 20 #[.slice a n cap] w fun e w' => ∃ k : Nat, e = .returned (.int .i64 k) ∧ Sound d k ∧ Below w.heap.size w w' := by
  have hmf : ∀ (fn : Fn) (first cap : Array Value) (w : World), (Instr.makeFunc fn first cap).run Try.prog w = .ok (.func fn first cap) w := fun _ _ _ _ => rfl
  have hs := search_calls a cap n d (w.alloc (.cells #[.slice a n cap] 38)) ⟨w.heap.size, 0, none⟩ (h.below ((Below.refl _ w).alloc (Nat.le_refl _) _) (Nat.le_refl _)) (by simp [go_sem]) hn hsz
  have B : Aside (Below w.heap.size w (w.alloc (.cells #[.slice a n cap] 38))) := (Below.refl _ w).alloc (Nat.le_refl _) _
  clear h
  go_enter Try.func20, Try.ntmps20
  go_wp2_with fail
  refine hs.mono ?_
  rintro e w' ⟨k, rfl, hk, rfl⟩
  have HK : Aside (Sound d k) := hk
  clear hk hs
  go_wp2_with fail
  go_ret
  exact ⟨k, rfl, HK.out, B.out⟩
end Go.Proofs.Ytglgmkikegbchaa
