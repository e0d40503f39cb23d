/- spec.Kept: true of a list and one of which a part is permuted. -/
import Derived.Test.YtglgmkikegbchaaGreatPerm
import Derived.Lib.QuietBelow
namespace Go.Proofs.YtglgmkikegbchaaGreat
open Go.RowKit Go.Sort Go.Maps

theorem ext_get (d : Array It) (A B i : Nat) (hB : B ≤ d.size) (hi : i < B - A) : (d.extract A B)[i]! = d[A + i]! := by
  rw [getElem!_pos _ i (by simp; omega), getElem!_pos d (A + i) (by omega)]
  simp
theorem Rd2.part {w : World} {blk off : Nat} {d : Array It} (A B : Nat) (hB : B ≤ d.size) (h : Rd2 w (some ⟨blk, off, none⟩) d) : Rd2 w (some ⟨blk, off + A * 2, none⟩) (d.extract A B) := fun h0 => by
  have hs : (d.extract A B).size = B - A := by simp; omega
  rw [hs] at h0
  obtain ⟨b, o, e, hl, hc⟩ := h (by omega)
  cases e
  refine ⟨blk, _, rfl, hl, fun i hi => ?_⟩
  rw [hs] at hi
  rw [ext_get d A B i hB hi]
  have := hc (A + i) (by omega)
  rw [show off + A * 2 + i * 2 = off + (A + i) * 2 by omega]
  exact this

theorem Rd2.partIf {w : World} {blk off : Nat} {d : Array It} (A B cap : Nat) (hB : B ≤ d.size) (hc : B ≤ cap) (h : Rd2 w (some ⟨blk, off, none⟩) d) : Rd2 w (if cap = A then some ⟨blk, off, none⟩ else some ⟨blk, off + A * 2, none⟩) (d.extract A B) := by
  by_cases e : cap = A
  · intro h0
    have : (d.extract A B).size = B - A := by simp; omega
    omega
  · rw [if_neg e]; exact h.part A B hB
theorem part_eq (d d' : Array It) (A B : Nat) (hB : B ≤ d.size) (hB' : B ≤ d'.size) (h : ∀ i, A ≤ i → i < B → d[i]! = d'[i]!) : d.extract A B = d'.extract A B := by
  refine Array.ext (by simp; omega) (fun i h1 h2 => ?_)
  have hi : i < B - A := by simp at h1; omega
  have := h (A + i) (by omega) (by omega)
  rw [← ext_get d A B i hB hi, ← ext_get d' A B i hB' hi, getElem!_pos _ i h1, getElem!_pos _ i h2] at this
  exact this

set_option maxHeartbeats 8000000 in
set_option maxRecDepth 1000000 in
theorem kept_some (blk off blk' off' cap cap' n A B : Nat) (d d' : Array It) (w : World) (h : Rd2 w (some ⟨blk, off, none⟩) d) (h' : Rd2 w (some ⟨blk', off', none⟩) d') (hn : d.size = n) (hc : n ≤ cap) (hc' : n ≤ cap') (hsz : n ≤ 2000) (hr : inR d) (hAB : A ≤ B) (hBn : B ≤ n) (hp : PermIn A B d d') :
    Calls Tryz.prog 29 #[.slice (some ⟨blk, off, none⟩) n cap, .slice (some ⟨blk', off', none⟩) n cap', .int .i64 A, .int .i64 B] w fun e w' => e = .returned (.bool true) ∧ Below w.heap.size w w' := by
  have hn' : d'.size = n := hp.1.trans hn
  have S1 : ∀ W, Below w.heap.size w W → Calls Tryz.prog 30 #[.slice (some ⟨blk, off, none⟩) A cap, .slice (some ⟨blk', off', none⟩) A cap'] W fun e w' => e = .returned (.bool true) ∧ Below W.heap.size W w' := fun W hW => by
    have e := same_calls (some ⟨blk, off + 0 * 2, none⟩) (some ⟨blk', off' + 0 * 2, none⟩) cap cap' (d.extract 0 A) (d'.extract 0 A) W ((Rd2.part 0 A (by omega) h).keep hW) ((Rd2.part 0 A (by omega) h').keep hW) (by simp; omega)
    have eq : d.extract 0 A = d'.extract 0 A := part_eq d d' 0 A (by omega) (by omega) (fun i h1 h2 => (hp.2.1 i (Or.inl h2)).symm)
    rw [show (d.extract 0 A).size = A by simp; omega, show (d'.extract 0 A).size = A by simp; omega, Nat.zero_mul, Nat.add_zero, Nat.add_zero, decide_eq_true eq] at e
    exact e.mono fun e w' ⟨h1, q, h2⟩ => ⟨h1, by rw [h2]; exact below_drewN (Below.refl _ _) q⟩
  have S2 : ∀ W, Below w.heap.size w W → Calls Tryz.prog 30 #[.slice (if cap = B then some ⟨blk, off, none⟩ else some ⟨blk, off + B * 2, none⟩) (n - B) (cap - B), .slice (if cap' = B then some ⟨blk', off', none⟩ else some ⟨blk', off' + B * 2, none⟩) (n - B) (cap' - B)] W fun e w' => e = .returned (.bool true) ∧ Below W.heap.size W w' := fun W hW => by
    have e := same_calls (if cap = B then some ⟨blk, off, none⟩ else some ⟨blk, off + B * 2, none⟩) (if cap' = B then some ⟨blk', off', none⟩ else some ⟨blk', off' + B * 2, none⟩) (cap - B) (cap' - B) (d.extract B n) (d'.extract B n) W ((Rd2.partIf B n cap (by omega) (by omega) h).keep hW) ((Rd2.partIf B n cap' (by omega) (by omega) h').keep hW) (by simp; omega)
    have eq : d.extract B n = d'.extract B n := part_eq d d' B n (by omega) (by omega) (fun i h1 h2 => (hp.2.1 i (Or.inr h1)).symm)
    rw [show (d.extract B n).size = n - B by simp; omega, show (d'.extract B n).size = n - B by simp; omega, decide_eq_true eq] at e
    exact e.mono fun e w' ⟨h1, q, h2⟩ => ⟨h1, by rw [h2]; exact below_drewN (Below.refl _ _) q⟩
  have S3 : ∀ W, Below w.heap.size w W → Calls Tryz.prog 46 #[.slice (if cap = A then some ⟨blk, off, none⟩ else some ⟨blk, off + A * 2, none⟩) (B - A) (cap - A), .slice (if cap' = A then some ⟨blk', off', none⟩ else some ⟨blk', off' + A * 2, none⟩) (B - A) (cap' - A)] W fun e w' => e = .returned (.bool true) ∧ Below W.heap.size W w' := fun W hW =>
    permuted_calls _ _ _ _ (B - A) (d.extract A B) (d'.extract A B) W ((Rd2.partIf A B cap (by omega) (by omega) h).keep hW) ((Rd2.partIf A B cap' (by omega) (by omega) h').keep hW) (by simp; omega) (by omega) (fun i hi => by
      have hi' : i < B - A := by simp at hi; omega
      rw [ext_get d A B i (by omega) hi']
      exact hr _ (by omega)) hp.2.2
  have C1 : ∀ p : Regrown, Calls Tryz.prog 30 #[.slice (some ⟨blk, off, none⟩) A cap, .slice (some ⟨blk', off', none⟩) A cap'] (grow (redrawn w p.d) p.os) fun e w'' => e = .returned (.bool true) ∧ ∃ p : Regrown, w'' = grow (redrawn w p.d) p.os := fun p => Calls.regrown_of (S1 _ (below_regrown w p.d p.os))
  have C2 : ∀ p : Regrown, Calls Tryz.prog 30 #[.slice (if cap = B then some ⟨blk, off, none⟩ else some ⟨blk, off + B * 2, none⟩) (n - B) (cap - B), .slice (if cap' = B then some ⟨blk', off', none⟩ else some ⟨blk', off' + B * 2, none⟩) (n - B) (cap' - B)] (grow (redrawn w p.d) p.os) fun e w'' => e = .returned (.bool true) ∧ ∃ p : Regrown, w'' = grow (redrawn w p.d) p.os := fun p => Calls.regrown_of (S2 _ (below_regrown w p.d p.os))
  have C3 : ∀ p : Regrown, Calls Tryz.prog 46 #[.slice (if cap = A then some ⟨blk, off, none⟩ else some ⟨blk, off + A * 2, none⟩) (B - A) (cap - A), .slice (if cap' = A then some ⟨blk', off', none⟩ else some ⟨blk', off' + A * 2, none⟩) (B - A) (cap' - A)] (grow (redrawn w p.d) p.os) fun e w'' => e = .returned (.bool true) ∧ ∃ p : Regrown, w'' = grow (redrawn w p.d) p.os := fun p => Calls.regrown_of (S3 _ (below_regrown w p.d p.os))
  clear S1 S2 S3
  have mixed : Tryz.prog.follows .mixedOrders = true := by kernel_rfl
  have a1 : (0 : Int) ≤ (A : Int) := by omega
  have a2 : (A : Int) ≤ (cap : Int) := by omega
  have a3 : (A : Int) ≤ (cap' : Int) := by omega
  have a4 : (B : Int) ≤ (n : Int) := by omega
  have a5 : (n : Int) ≤ (cap : Int) := by omega
  have a6 : (n : Int) ≤ (cap' : Int) := by omega
  have a7 : (A : Int) ≤ (B : Int) := by omega
  have a8 : (B : Int) ≤ (cap : Int) := by omega
  have a9 : (B : Int) ≤ (cap' : Int) := by omega
  have a0 : (0 : Int) ≤ (B : Int) := by omega
  clear h h' hn hn' hp hr hc hc' hAB hBn
  go_enter Tryz.func29, Tryz.ntmps29
  go_wp2_with fail
  refine wp_region_quiet_below (by assumption) (by kernel_rfl) ?_
  repeat' (quiet_step (first | with_reducible exact C1 _ | with_reducible exact C2 _ | with_reducible exact C3 _))
  all_goals
    refine wpQuiet_nil ?_
    intro _ hw'
    obtain ⟨⟨nq, osq⟩, hw''⟩ := hw'
    subst hw''
    go_wp2_with fail
  all_goals
    go_ret
    exact ⟨rfl, below_regrown _ _ _⟩

theorem rd2_nil (w : World) (a : Option Addr) : Rd2 w a #[] := fun h => absurd h (by simp)
theorem same_nil (a a' : Option Addr) (cap cap' : Nat) (w : World) (p : Regrown) : Calls Tryz.prog 30 #[.slice a 0 cap, .slice a' 0 cap'] (grow (redrawn w p.d) p.os) fun e w'' => e = .returned (.bool true) ∧ ∃ p : Regrown, w'' = grow (redrawn w p.d) p.os :=
  Calls.regrown_of ((same_calls a a' cap cap' #[] #[] _ (rd2_nil _ _) (rd2_nil _ _) (by simp)).mono fun e w' ⟨h1, q, h2⟩ => ⟨h1, by rw [h2]; exact below_drewN (Below.refl _ _) q⟩)
theorem permuted_nil (a a' : Option Addr) (cap cap' : Nat) (w : World) (p : Regrown) : Calls Tryz.prog 46 #[.slice a 0 cap, .slice a' 0 cap'] (grow (redrawn w p.d) p.os) fun e w'' => e = .returned (.bool true) ∧ ∃ p : Regrown, w'' = grow (redrawn w p.d) p.os :=
  Calls.regrown_of (permuted_calls a a' cap cap' 0 #[] #[] _ (rd2_nil _ _) (rd2_nil _ _) rfl (by omega) (fun i hi => absurd hi (by simp)) (List.Perm.refl _))

set_option maxHeartbeats 8000000 in
set_option maxRecDepth 1000000 in
theorem kept_none (blk' cap' : Nat) (w : World) :
    Calls Tryz.prog 29 #[.slice none 0 0, .slice (some ⟨blk', 0, none⟩) 0 cap', .int .i64 0, .int .i64 0] w fun e w' => e = .returned (.bool true) ∧ Below w.heap.size w w' := by
  have mixed : Tryz.prog.follows .mixedOrders = true := by kernel_rfl
  go_enter Tryz.func29, Tryz.ntmps29
  go_wp2_with fail
  refine wp_region_quiet_below (by assumption) (by kernel_rfl) ?_
  repeat' (quiet_step (first | with_reducible exact same_nil _ _ _ _ w _ | with_reducible exact permuted_nil _ _ _ _ w _))
  all_goals
    refine wpQuiet_nil ?_
    intro _ hw'
    obtain ⟨⟨nq, osq⟩, hw''⟩ := hw'
    subst hw''
    go_wp2_with fail
  all_goals
    go_ret
    exact ⟨rfl, below_regrown _ _ _⟩

set_option maxHeartbeats 8000000 in
set_option maxRecDepth 1000000 in
theorem kept_zero (ad : Addr) (cap blk' cap' : Nat) (w : World) :
    Calls Tryz.prog 29 #[.slice (some ad) 0 cap, .slice (some ⟨blk', 0, none⟩) 0 cap', .int .i64 0, .int .i64 0] w fun e w' => e = .returned (.bool true) ∧ Below w.heap.size w w' := by
  have mixed : Tryz.prog.follows .mixedOrders = true := by kernel_rfl
  go_enter Tryz.func29, Tryz.ntmps29
  go_wp2_with fail
  refine wp_region_quiet_below (by assumption) (by kernel_rfl) ?_
  repeat' (quiet_step (first | with_reducible exact same_nil _ _ _ _ w _ | with_reducible exact permuted_nil _ _ _ _ w _))
  all_goals
    refine wpQuiet_nil ?_
    intro _ hw'
    obtain ⟨⟨nq, osq⟩, hw''⟩ := hw'
    subst hw''
    go_wp2_with fail
  all_goals
    go_ret
    exact ⟨rfl, below_regrown _ _ _⟩
end Go.Proofs.YtglgmkikegbchaaGreat
