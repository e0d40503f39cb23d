/- Texts of this claim, laid together: zKept, zArg, zInnerC, zInnerO, zPerm, zNums, zDoes, zOpen, zInnerF, zLaw. -/
import Derived.Test.YtglgmkikegbchaaGreatGB
import Derived.Lib.QuietBelow
import Derived.Test.YtglgmkikegbchaaGreatGK
import Derived.Test.YtglgmkikegbchaaGreatGP
import Derived.Test.YtglgmkikegbchaaGreatGN
/- spec.Kept: true of a list and one of which a part is permuted. -/
namespace Go.Proofs.YtglgmkikegbchaaGreat
open Go.RowKit Go.Sort Go.Maps

theorem ext_get (d : Array It) (A B i : Nat) (hB : B ≤ d.size) (hi : i < B - A) : (d.extract A B)[i]! = d[A + i]! := by
  rw [getElem!_pos _ i (by simp; omega), getElem!_pos d (A + i) (by omega)]
  simp
theorem Rd2.part {w : World} {blk off : Nat} {d : Array It} (A B : Nat) (hB : B ≤ d.size) (h : Rd2 w (some ⟨blk, off, none⟩) d) : Rd2 w (some ⟨blk, off + A * 2, none⟩) (d.extract A B) := fun h0 => by
  have hs : (d.extract A B).size = B - A := by simp; omega
  rw [hs] at h0
  obtain ⟨b, o, e, hl, hc⟩ := h (by omega)
  cases e
  refine ⟨blk, _, rfl, hl, fun i hi => ?_⟩
  rw [hs] at hi
  rw [ext_get d A B i hB hi]
  have := hc (A + i) (by omega)
  rw [show off + A * 2 + i * 2 = off + (A + i) * 2 by omega]
  exact this

theorem Rd2.partIf {w : World} {blk off : Nat} {d : Array It} (A B cap : Nat) (hB : B ≤ d.size) (hc : B ≤ cap) (h : Rd2 w (some ⟨blk, off, none⟩) d) : Rd2 w (if cap = A then some ⟨blk, off, none⟩ else some ⟨blk, off + A * 2, none⟩) (d.extract A B) := by
  by_cases e : cap = A
  · intro h0
    have : (d.extract A B).size = B - A := by simp; omega
    omega
  · rw [if_neg e]; exact h.part A B hB
theorem part_eq (d d' : Array It) (A B : Nat) (hB : B ≤ d.size) (hB' : B ≤ d'.size) (h : ∀ i, A ≤ i → i < B → d[i]! = d'[i]!) : d.extract A B = d'.extract A B := by
  refine Array.ext (by simp; omega) (fun i h1 h2 => ?_)
  have hi : i < B - A := by simp at h1; omega
  have := h (A + i) (by omega) (by omega)
  rw [← ext_get d A B i hB hi, ← ext_get d' A B i hB' hi, getElem!_pos _ i h1, getElem!_pos _ i h2] at this
  exact this

set_option maxHeartbeats 8000000 in
set_option maxRecDepth 1000000 in
theorem kept_some (blk off blk' off' cap cap' n A B : Nat) (d d' : Array It) (w : World) (h : Rd2 w (some ⟨blk, off, none⟩) d) (h' : Rd2 w (some ⟨blk', off', none⟩) d') (hn : d.size = n) (hc : n ≤ cap) (hc' : n ≤ cap') (hsz : n ≤ 2000) (hr : inR d) (hAB : A ≤ B) (hBn : B ≤ n) (hp : PermIn A B d d') :
    Calls Tryz.prog 29 #[.slice (some ⟨blk, off, none⟩) n cap, .slice (some ⟨blk', off', none⟩) n cap', .int .i64 A, .int .i64 B] w fun e w' => e = .returned (.bool true) ∧ Below w.heap.size w w' := by
  have hn' : d'.size = n := hp.1.trans hn
  have S1 : ∀ W, Below w.heap.size w W → Calls Tryz.prog 30 #[.slice (some ⟨blk, off, none⟩) A cap, .slice (some ⟨blk', off', none⟩) A cap'] W fun e w' => e = .returned (.bool true) ∧ Below W.heap.size W w' := fun W hW => by
    have e := same_calls (some ⟨blk, off + 0 * 2, none⟩) (some ⟨blk', off' + 0 * 2, none⟩) cap cap' (d.extract 0 A) (d'.extract 0 A) W ((Rd2.part 0 A (by omega) h).keep hW) ((Rd2.part 0 A (by omega) h').keep hW) (by simp; omega)
    have eq : d.extract 0 A = d'.extract 0 A := part_eq d d' 0 A (by omega) (by omega) (fun i h1 h2 => (hp.2.1 i (Or.inl h2)).symm)
    rw [show (d.extract 0 A).size = A by simp; omega, show (d'.extract 0 A).size = A by simp; omega, Nat.zero_mul, Nat.add_zero, Nat.add_zero, decide_eq_true eq] at e
    exact e.mono fun e w' ⟨h1, q, h2⟩ => ⟨h1, by rw [h2]; exact below_drewN (Below.refl _ _) q⟩
  have S2 : ∀ W, Below w.heap.size w W → Calls Tryz.prog 30 #[.slice (if cap = B then some ⟨blk, off, none⟩ else some ⟨blk, off + B * 2, none⟩) (n - B) (cap - B), .slice (if cap' = B then some ⟨blk', off', none⟩ else some ⟨blk', off' + B * 2, none⟩) (n - B) (cap' - B)] W fun e w' => e = .returned (.bool true) ∧ Below W.heap.size W w' := fun W hW => by
    have e := same_calls (if cap = B then some ⟨blk, off, none⟩ else some ⟨blk, off + B * 2, none⟩) (if cap' = B then some ⟨blk', off', none⟩ else some ⟨blk', off' + B * 2, none⟩) (cap - B) (cap' - B) (d.extract B n) (d'.extract B n) W ((Rd2.partIf B n cap (by omega) (by omega) h).keep hW) ((Rd2.partIf B n cap' (by omega) (by omega) h').keep hW) (by simp; omega)
    have eq : d.extract B n = d'.extract B n := part_eq d d' B n (by omega) (by omega) (fun i h1 h2 => (hp.2.1 i (Or.inr h1)).symm)
    rw [show (d.extract B n).size = n - B by simp; omega, show (d'.extract B n).size = n - B by simp; omega, decide_eq_true eq] at e
    exact e.mono fun e w' ⟨h1, q, h2⟩ => ⟨h1, by rw [h2]; exact below_drewN (Below.refl _ _) q⟩
  have S3 : ∀ W, Below w.heap.size w W → Calls Tryz.prog 46 #[.slice (if cap = A then some ⟨blk, off, none⟩ else some ⟨blk, off + A * 2, none⟩) (B - A) (cap - A), .slice (if cap' = A then some ⟨blk', off', none⟩ else some ⟨blk', off' + A * 2, none⟩) (B - A) (cap' - A)] W fun e w' => e = .returned (.bool true) ∧ Below W.heap.size W w' := fun W hW =>
    permuted_calls _ _ _ _ (B - A) (d.extract A B) (d'.extract A B) W ((Rd2.partIf A B cap (by omega) (by omega) h).keep hW) ((Rd2.partIf A B cap' (by omega) (by omega) h').keep hW) (by simp; omega) (by omega) (fun i hi => by
      have hi' : i < B - A := by simp at hi; omega
      rw [ext_get d A B i (by omega) hi']
      exact hr _ (by omega)) hp.2.2
  have C1 : ∀ p : Regrown, Calls Tryz.prog 30 #[.slice (some ⟨blk, off, none⟩) A cap, .slice (some ⟨blk', off', none⟩) A cap'] (grow (redrawn w p.d) p.os) fun e w'' => e = .returned (.bool true) ∧ ∃ p : Regrown, w'' = grow (redrawn w p.d) p.os := fun p => Calls.regrown_of (S1 _ (below_regrown w p.d p.os))
  have C2 : ∀ p : Regrown, Calls Tryz.prog 30 #[.slice (if cap = B then some ⟨blk, off, none⟩ else some ⟨blk, off + B * 2, none⟩) (n - B) (cap - B), .slice (if cap' = B then some ⟨blk', off', none⟩ else some ⟨blk', off' + B * 2, none⟩) (n - B) (cap' - B)] (grow (redrawn w p.d) p.os) fun e w'' => e = .returned (.bool true) ∧ ∃ p : Regrown, w'' = grow (redrawn w p.d) p.os := fun p => Calls.regrown_of (S2 _ (below_regrown w p.d p.os))
  have C3 : ∀ p : Regrown, Calls Tryz.prog 46 #[.slice (if cap = A then some ⟨blk, off, none⟩ else some ⟨blk, off + A * 2, none⟩) (B - A) (cap - A), .slice (if cap' = A then some ⟨blk', off', none⟩ else some ⟨blk', off' + A * 2, none⟩) (B - A) (cap' - A)] (grow (redrawn w p.d) p.os) fun e w'' => e = .returned (.bool true) ∧ ∃ p : Regrown, w'' = grow (redrawn w p.d) p.os := fun p => Calls.regrown_of (S3 _ (below_regrown w p.d p.os))
  clear S1 S2 S3
  have mixed : Tryz.prog.follows .mixedOrders = true := by kernel_rfl
  have a1 : (0 : Int) ≤ (A : Int) := by omega
  have a2 : (A : Int) ≤ (cap : Int) := by omega
  have a3 : (A : Int) ≤ (cap' : Int) := by omega
  have a4 : (B : Int) ≤ (n : Int) := by omega
  have a5 : (n : Int) ≤ (cap : Int) := by omega
  have a6 : (n : Int) ≤ (cap' : Int) := by omega
  have a7 : (A : Int) ≤ (B : Int) := by omega
  have a8 : (B : Int) ≤ (cap : Int) := by omega
  have a9 : (B : Int) ≤ (cap' : Int) := by omega
  have a0 : (0 : Int) ≤ (B : Int) := by omega
  clear h h' hn hn' hp hr hc hc' hAB hBn
  go_enter Tryz.func29, Tryz.ntmps29
  go_wp2_with fail
  refine wp_region_quiet_below (by assumption) (by kernel_rfl) ?_
  repeat' (quiet_step (first | with_reducible exact C1 _ | with_reducible exact C2 _ | with_reducible exact C3 _))
  all_goals
    refine wpQuiet_nil ?_
    intro _ hw'
    obtain ⟨⟨nq, osq⟩, hw''⟩ := hw'
    subst hw''
    go_wp2_with fail
  all_goals
    go_ret
    exact ⟨rfl, below_regrown _ _ _⟩

theorem rd2_nil (w : World) (a : Option Addr) : Rd2 w a #[] := fun h => absurd h (by simp)
theorem same_nil (a a' : Option Addr) (cap cap' : Nat) (w : World) (p : Regrown) : Calls Tryz.prog 30 #[.slice a 0 cap, .slice a' 0 cap'] (grow (redrawn w p.d) p.os) fun e w'' => e = .returned (.bool true) ∧ ∃ p : Regrown, w'' = grow (redrawn w p.d) p.os :=
  Calls.regrown_of ((same_calls a a' cap cap' #[] #[] _ (rd2_nil _ _) (rd2_nil _ _) (by simp)).mono fun e w' ⟨h1, q, h2⟩ => ⟨h1, by rw [h2]; exact below_drewN (Below.refl _ _) q⟩)
theorem permuted_nil (a a' : Option Addr) (cap cap' : Nat) (w : World) (p : Regrown) : Calls Tryz.prog 46 #[.slice a 0 cap, .slice a' 0 cap'] (grow (redrawn w p.d) p.os) fun e w'' => e = .returned (.bool true) ∧ ∃ p : Regrown, w'' = grow (redrawn w p.d) p.os :=
  Calls.regrown_of (permuted_calls a a' cap cap' 0 #[] #[] _ (rd2_nil _ _) (rd2_nil _ _) rfl (by omega) (fun i hi => absurd hi (by simp)) (List.Perm.refl _))

set_option maxHeartbeats 8000000 in
set_option maxRecDepth 1000000 in
theorem kept_none (blk' cap' : Nat) (w : World) :
    Calls Tryz.prog 29 #[.slice none 0 0, .slice (some ⟨blk', 0, none⟩) 0 cap', .int .i64 0, .int .i64 0] w fun e w' => e = .returned (.bool true) ∧ Below w.heap.size w w' := by
  have mixed : Tryz.prog.follows .mixedOrders = true := by kernel_rfl
  go_enter Tryz.func29, Tryz.ntmps29
  go_wp2_with fail
  refine wp_region_quiet_below (by assumption) (by kernel_rfl) ?_
  repeat' (quiet_step (first | with_reducible exact same_nil _ _ _ _ w _ | with_reducible exact permuted_nil _ _ _ _ w _))
  all_goals
    refine wpQuiet_nil ?_
    intro _ hw'
    obtain ⟨⟨nq, osq⟩, hw''⟩ := hw'
    subst hw''
    go_wp2_with fail
  all_goals
    go_ret
    exact ⟨rfl, below_regrown _ _ _⟩

set_option maxHeartbeats 8000000 in
set_option maxRecDepth 1000000 in
theorem kept_zero (ad : Addr) (cap blk' cap' : Nat) (w : World) :
    Calls Tryz.prog 29 #[.slice (some ad) 0 cap, .slice (some ⟨blk', 0, none⟩) 0 cap', .int .i64 0, .int .i64 0] w fun e w' => e = .returned (.bool true) ∧ Below w.heap.size w w' := by
  have mixed : Tryz.prog.follows .mixedOrders = true := by kernel_rfl
  go_enter Tryz.func29, Tryz.ntmps29
  go_wp2_with fail
  refine wp_region_quiet_below (by assumption) (by kernel_rfl) ?_
  repeat' (quiet_step (first | with_reducible exact same_nil _ _ _ _ w _ | with_reducible exact permuted_nil _ _ _ _ w _))
  all_goals
    refine wpQuiet_nil ?_
    intro _ hw'
    obtain ⟨⟨nq, osq⟩, hw''⟩ := hw'
    subst hw''
    go_wp2_with fail
  all_goals
    go_ret
    exact ⟨rfl, below_regrown _ _ _⟩
end Go.Proofs.YtglgmkikegbchaaGreat

/- A list as an argument; Kept, whatever the list's address. -/
namespace Go.Proofs.YtglgmkikegbchaaGreat
open Go.RowKit Go.Sort Go.Maps

/-- A list that came in: its elements, its capacity. -/
structure Arg (w : World) (a : Option Addr) (cap : Nat) (d : Array It) : Prop where
  rd : Rd2 w a d
  le : d.size ≤ cap
  nil : a = none → d.size = 0 ∧ cap = 0
theorem Arg.keep {w w' : World} {a : Option Addr} {cap : Nat} {d : Array It} (h : Arg w a cap d) (hb : Below w.heap.size w w') : Arg w' a cap d := ⟨h.rd.keep hb, h.le, h.nil⟩

theorem kept_calls (a : Option Addr) (cap cap' n A B b : Nat) (d d' : Array It) (w : World) (h : Arg w a cap d) (h' : Rd2 w (some ⟨b, 0, none⟩) d') (hn : d.size = n) (hc' : n ≤ cap') (hsz : n ≤ 2000) (hr : inR d) (hAB : A ≤ B) (hBn : B ≤ n) (hp : PermIn A B d d') :
    Calls Tryz.prog 29 #[.slice a n cap, .slice (some ⟨b, 0, none⟩) n cap', .int .i64 A, .int .i64 B] w fun e w' => e = .returned (.bool true) ∧ Below w.heap.size w w' := by
  by_cases h0 : n = 0
  · obtain rfl : A = 0 := by omega
    obtain rfl : B = 0 := by omega
    subst h0
    cases a with
    | none =>
      obtain ⟨_, rfl⟩ := h.nil rfl
      exact kept_none b cap' w
    | some ad => exact kept_zero ad cap b cap' w
  · obtain ⟨blk, off, rfl, _, _⟩ := h.rd (by omega)
    exact kept_some blk off b 0 cap cap' n A B d d' w h.rd h' hn (by have := h.le; omega) hc' hsz hr hAB hBn hp
end Go.Proofs.YtglgmkikegbchaaGreat

/- impl.Inner, by a function that compares. -/
namespace Go.Proofs.YtglgmkikegbchaaGreat
open Go.RowKit Go.Sort

/-- Numbers that were told: in memory that is new since W. -/
def NumsAt (W W' : World) (nv : Value) (nums : Array Int) : Prop := ∃ na cap, nv = .slice na nums.size cap ∧ RdN W' na nums ∧ ∀ blk off, na = some ⟨blk, off, none⟩ → 0 < nums.size → W.heap.size ≤ blk

/-- What Inner gives. -/
def InnerTo (w : World) (d' : Array It) (nums : Array Int) (e : Ending) (w' : World) : Prop := ∃ b cap na ncap, e = .returned (.tuple #[.slice (some ⟨b, 0, none⟩) d'.size cap, .slice na nums.size ncap, .bool true]) ∧
  w.heap.size ≤ b ∧ b < w'.heap.size ∧ d'.size ≤ cap ∧ Holds2 w' b 0 d' ∧ RdN w' na nums ∧ Below w.heap.size w w'

theorem inner1_idle (p q r : Addr) (w : World) (u : FrameMode) (h : w.cell? p = some (.bool true)) :
    CallsD Tryz.prog 38 #[.pointer (some p), .pointer (some q), .pointer (some r)] u w fun e u' w' => e = .returned (.tuple #[]) ∧ u' = u ∧ w' = w := by
  have : CallsD Tryz.prog 38 #[.pointer (some p), .pointer (some q), .pointer (some r)] u w fun e u' w' => u' = u ∧ (e = .returned (.tuple #[]) ∧ w' = w) := by
    go_enter_d Tryz.func38, Tryz.ntmps38
    go_wp2_with fail
    go_end0
    exact ⟨rfl, rfl⟩
  exact this.mono fun e u' w' ⟨h1, h2, h3⟩ => ⟨h2, h1, h3⟩

theorem boxes4 {w w1 : World} {c0 : Array Value} {t0 t1 t2 t3 : TypeId} {v1 v2 v3 : Value} (hbel : Below (w.heap.size + 1 + 1 + 1 + 1) ((((w.alloc (.cells c0 t0)).alloc (.cells #[v1] t1)).alloc (.cells #[v2] t2)).alloc (.cells #[v3] t3)) w1) :
    w1.heap[w.heap.size]? = some (.cells c0 t0 (0, 0)) ∧ w1.heap[w.heap.size + 1]? = some (.cells #[v1] t1 (0, 0)) ∧ w1.heap[w.heap.size + 1 + 1]? = some (.cells #[v2] t2 (0, 0)) ∧ w1.heap[w.heap.size + 1 + 1 + 1]? = some (.cells #[v3] t3 (0, 0)) := by
  refine ⟨?_, ?_, ?_, ?_⟩
  · rw [hbel.block _ (by omega)]; show ((((w.heap.push _).push _).push _).push _)[_]? = _; simp only [Array.getElem?_push, Array.size_push]; repeat (first | rw [if_pos trivial] | rw [if_pos rfl] | rw [if_neg (by omega)])
  · rw [hbel.block _ (by omega)]; show ((((w.heap.push _).push _).push _).push _)[_]? = _; simp only [Array.getElem?_push, Array.size_push]; repeat (first | rw [if_pos trivial] | rw [if_pos rfl] | rw [if_neg (by omega)])
  · rw [hbel.block _ (by omega)]; show ((((w.heap.push _).push _).push _).push _)[_]? = _; simp only [Array.getElem?_push, Array.size_push]; repeat (first | rw [if_pos trivial] | rw [if_pos rfl] | rw [if_neg (by omega)])
  · rw [hbel.block _ (by omega)]; show ((((w.heap.push _).push _).push _).push _)[_]? = _; simp only [Array.getElem?_push, Array.size_push]; repeat (first | rw [if_pos trivial] | rw [if_pos rfl] | rw [if_neg (by omega)])
theorem cell_at {w : World} {b i : Nat} {c : Array Value} {t : TypeId} {v : Value} (h : w.heap[b]? = some (.cells c t (0, 0))) (hv : c[i]? = some v) : w.cell? ⟨b, i, none⟩ = some v := by simp [World.cell?, h, hv]
theorem frozen_at {w : World} {b i : Nat} {c : Array Value} {t : TypeId} (h : w.heap[b]? = some (.cells c t (0, 0))) : w.frozen? ⟨b, i, none⟩ = false := by simp [World.frozen?, h]

theorem holds2_below {w w' : World} {b : Nat} {d : Array It} (h : Holds2 w b 0 d) (hb : w'.heap[b]? = w.heap[b]?) : Holds2 w' b 0 d := Holds2_of_block hb h

set_option maxHeartbeats 2000000 in
set_option maxRecDepth 1000000 in
theorem inner_c (f : Int) (a : Option Addr) (cap : Nat) (d d' : Array It) (o : Ordr) (na : Option Addr) (n ncap : Nat) (ns nums : Array Int) (w : World) (h : Rd2 w a d) (hN : RdN w na ns) (hsz : d.size ≤ 2000) (hd : d'.size = d.size)
    (hm : ∀ W, Calls Tryz.prog 40 #[.int .i64 f] W fun e w' => e = .returned (.int .i64 n) ∧ w' = W)
    (HB : ∀ (W : World) (b cap' : Nat), b < W.heap.size → Holds2 W b 0 d → RdN W na ns → Calls Tryz.prog 42 #[.int .i64 f, .slice (some ⟨b, 0, none⟩) d.size cap', .func (.func 43) #[vOrd o] #[], .slice na n ncap] W fun e W' => ∃ nv, e = .returned nv ∧ St2 W b 0 d' W' ∧ NumsAt W W' nv nums) :
    Calls Tryz.prog 28 #[.int .i64 0, .int .i64 f, .slice a d.size cap, vOrd o, .slice na n ncap] w (InnerTo w d' nums) := by
  have H : Aside (Rd2 w a d ∧ RdN w na ns) := ⟨h, hN⟩
  have hB : Aside (∀ (W : World) (b cap' : Nat), b < W.heap.size → Holds2 W b 0 d → RdN W na ns → Calls Tryz.prog 42 #[.int .i64 f, .slice (some ⟨b, 0, none⟩) d.size cap', .func (.func 43) #[vOrd o] #[], .slice na n ncap] W fun e W' => ∃ nv, e = .returned nv ∧ St2 W b 0 d' W' ∧ NumsAt W W' nv nums) := HB
  have D : Aside (d'.size = d.size) := hd
  clear h hN HB hd
  obtain ⟨k, s, m0, m1, m2⟩ := o
  have hmf : ∀ (fn : Fn) (first cap : Array Value) (w : World), (Instr.makeFunc fn first cap).run Tryz.prog w = .ok (.func fn first cap) w := fun _ _ _ _ => rfl
  go_enter_defers Tryz.func28, Tryz.ntmps28
  go_wp2_with fail
  refine (hm _).mono ?_
  rintro e W0 ⟨rfl, rfl⟩
  go_wp2_with fail
  have BX : Below w.heap.size w ((((w.alloc (.cells #[.int .i64 k, .int .i64 s, .int .u64 m0, .int .u64 m1, .int .u64 m2] 26)).alloc (.cells #[.slice none 0 0] 22)).alloc (.cells #[.slice none 0 0] 29)).alloc (.cells #[.bool false] 4)) :=
    Below.next (Below.next (Below.next (below_alloc _ _) (below_alloc _ _)) (below_alloc _ _)) (below_alloc _ _)
  refine (copied_calls a cap d _ (H.out.1.keep BX) hsz).mono ?_
  rintro e w1 ⟨v, rfl, b, c2, rfl, hb1, hb2, hcap, hH, hbel⟩
  simp only [World.size_alloc] at hb1 hbel
  have hsz1 : w.heap.size + 4 ≤ w1.heap.size := by have := hbel.size; simpa using this
  obtain ⟨hb0, hb10, hb11, hb12⟩ := boxes4 hbel
  have k0 := cell_at (i := 0) hb0 rfl
  have k1 := cell_at (i := 1) hb0 rfl
  have k2 := cell_at (i := 2) hb0 rfl
  have k3 := cell_at (i := 3) hb0 rfl
  have k4 := cell_at (i := 4) hb0 rfl
  have c10 := cell_at (i := 0) hb10 rfl
  have f10 := frozen_at (i := 0) hb10
  have c11 := cell_at (i := 0) hb11 rfl
  have f11 := frozen_at (i := 0) hb11
  have c12 := cell_at (i := 0) hb12 rfl
  have f12 := frozen_at (i := 0) hb12
  clear hb0 hb10 hb11 hb12
  have B1 : Aside (Below w.heap.size w w1) := BX.trans (hbel.mono (by omega))
  obtain ⟨W, hW⟩ : ∃ W, W = w1.setCell ⟨w.heap.size + 1, 0, none⟩ (.slice (some ⟨b, 0, none⟩) d.size c2) := ⟨_, rfl⟩
  have szW : W.heap.size = w1.heap.size := by rw [hW]; simp
  have HW : Holds2 W b 0 d := by rw [hW]; exact Holds2_of_block (Below.heap_setCell _ _ _ _ (by dsimp only; omega)) hH
  have BW : Aside (Below w.heap.size w W) := by show Below _ _ _; rw [hW]; exact B1.out.setCell (by dsimp only; omega) _
  have hC := hB.out W b c2 (by omega) HW (H.out.2.keep BW.out)
  have d10 : W.cell? ⟨w.heap.size + 1, 0, none⟩ = some (.slice (some ⟨b, 0, none⟩) d.size c2) := by rw [hW]; exact World.cell?_setCell_same _ _ _ c10
  have e10 : W.frozen? ⟨w.heap.size + 1, 0, none⟩ = false := by rw [hW, World.frozen?_setCell]; exact f10
  have d11 : W.cell? ⟨w.heap.size + 1 + 1, 0, none⟩ = some (.slice none 0 0) := by rw [hW, World.cell?_of_block (Below.heap_setCell _ _ _ _ (by dsimp only; omega))]; exact c11
  have e11 : W.frozen? ⟨w.heap.size + 1 + 1, 0, none⟩ = false := by rw [hW, World.frozen?_of_block (Below.heap_setCell _ _ _ _ (by dsimp only; omega))]; exact f11
  have d12 : W.cell? ⟨w.heap.size + 1 + 1 + 1, 0, none⟩ = some (.bool false) := by rw [hW, World.cell?_of_block (Below.heap_setCell _ _ _ _ (by dsimp only; omega))]; exact c12
  have e12 : W.frozen? ⟨w.heap.size + 1 + 1 + 1, 0, none⟩ = false := by rw [hW, World.frozen?_of_block (Below.heap_setCell _ _ _ _ (by dsimp only; omega))]; exact f12
  clear HW hH hbel BX B1 H hB
  rw [hW] at hC
  go_wp2_with fail
  refine hC.mono ?_
  rintro e W2 ⟨_, rfl, S2, rn, rcap, rfl, hrn, hrb⟩
  rw [← hW] at S2 hrb
  have g2 := S2.grown
  have sz2 := g2.size
  have p10 := (kept_cell g2 (p := ⟨w.heap.size + 1, 0, none⟩) (by dsimp only; omega) (by simp; omega)).trans d10
  have r10 := (kept_frozen g2 (p := ⟨w.heap.size + 1, 0, none⟩) (by dsimp only; omega) (by simp; omega)).trans e10
  have p11 := (kept_cell g2 (p := ⟨w.heap.size + 1 + 1, 0, none⟩) (by dsimp only; omega) (by simp; omega)).trans d11
  have r11 := (kept_frozen g2 (p := ⟨w.heap.size + 1 + 1, 0, none⟩) (by dsimp only; omega) (by simp; omega)).trans e11
  have p12 := (kept_cell g2 (p := ⟨w.heap.size + 1 + 1 + 1, 0, none⟩) (by dsimp only; omega) (by simp; omega)).trans d12
  have r12 := (kept_frozen g2 (p := ⟨w.heap.size + 1 + 1 + 1, 0, none⟩) (by dsimp only; omega) (by simp; omega)).trans e12
  have B2 : Aside (Below w.heap.size w W2) := below_grownBy BW.out g2 (by omega) (by omega)
  have N2 : Aside (RdN W2 rn nums ∧ (∀ blk off, rn = some ⟨blk, off, none⟩ → 0 < nums.size → W.heap.size ≤ blk) ∧ Holds2 W2 b 0 d' ∧ b < W2.heap.size ∧ w.heap.size + 4 ≤ W.heap.size) := ⟨hrn, hrb, S2.holds, S2.lt, by omega⟩
  clear S2 hrn hrb g2 d10 e10 d11 e11 d12 e12 c10 f10 c11 f11 c12 f12 k0 k1 k2 k3 k4 hC hW BW
  go_wp2_with fail
  obtain ⟨V, hV⟩ : ∃ V, V = W2.setCell ⟨w.heap.size + 1 + 1, 0, none⟩ (.slice rn nums.size rcap) := ⟨_, rfl⟩
  rw [← hV]
  have q10 : V.cell? ⟨w.heap.size + 1, 0, none⟩ = some (.slice (some ⟨b, 0, none⟩) d.size c2) := by rw [hV, World.cell?_of_block (Below.heap_setCell _ _ _ _ (by dsimp only; omega))]; exact p10
  have s10 : V.frozen? ⟨w.heap.size + 1, 0, none⟩ = false := by rw [hV, World.frozen?_setCell]; exact r10
  have q11 : V.cell? ⟨w.heap.size + 1 + 1, 0, none⟩ = some (.slice rn nums.size rcap) := by rw [hV]; exact World.cell?_setCell_same _ _ _ p11
  have s11 : V.frozen? ⟨w.heap.size + 1 + 1, 0, none⟩ = false := by rw [hV, World.frozen?_setCell]; exact r11
  have q12 : V.cell? ⟨w.heap.size + 1 + 1 + 1, 0, none⟩ = some (.bool false) := by rw [hV, World.cell?_of_block (Below.heap_setCell _ _ _ _ (by dsimp only; omega))]; exact p12
  have s12 : V.frozen? ⟨w.heap.size + 1 + 1 + 1, 0, none⟩ = false := by rw [hV, World.frozen?_setCell]; exact r12
  have szV : V.heap.size = W2.heap.size := by rw [hV]; simp
  have BV : Aside (Below w.heap.size w V) := by show Below _ _ _; rw [hV]; exact B2.out.setCell (by dsimp only; omega) _
  have NV : Aside (RdN V rn nums ∧ (∀ blk off, rn = some ⟨blk, off, none⟩ → 0 < nums.size → w.heap.size + 4 ≤ blk) ∧ Holds2 V b 0 d' ∧ b < V.heap.size) := by
    show _ ∧ _ ∧ _ ∧ _
    obtain ⟨n1, n2, n3, n4, n5⟩ := N2.out
    refine ⟨fun h0 => ?_, fun blk off e h0 => by have := n2 blk off e h0; omega, by rw [hV]; exact Holds2_of_block (Below.heap_setCell _ _ _ _ (by dsimp only; omega)) n3, by omega⟩
    obtain ⟨blk, off, e, hl, hc⟩ := n1 h0
    have := n2 blk off e h0
    exact ⟨blk, off, e, by omega, fun i hi => by rw [hV, World.cell?_of_block (Below.heap_setCell _ _ _ _ (by dsimp only; omega))]; exact hc i hi⟩
  clear p10 r10 p11 r11 p12 r12 N2 B2 hV
  go_region
  obtain ⟨X, hX⟩ : ∃ X, X = (((V.setCell ⟨w.heap.size + 1, 0, none⟩ (.slice (some ⟨b, 0, none⟩) d.size c2)).setCell ⟨w.heap.size + 1 + 1, 0, none⟩ (.slice rn nums.size rcap)).setCell ⟨w.heap.size + 1 + 1 + 1, 0, none⟩ (.bool true)).drew := ⟨_, rfl⟩
  rw [← hX]
  have hblk : ∀ k, k ≠ w.heap.size + 1 → k ≠ w.heap.size + 1 + 1 → k ≠ w.heap.size + 1 + 1 + 1 → X.heap[k]? = V.heap[k]? := fun k h1 h2 h3 => by
    rw [hX]
    exact (Below.heap_setCell _ _ _ _ h3).trans ((Below.heap_setCell _ _ _ _ h2).trans (Below.heap_setCell _ _ _ _ h1))
  have x10 : X.cell? ⟨w.heap.size + 1, 0, none⟩ = some (.slice (some ⟨b, 0, none⟩) d.size c2) := by
    rw [hX]
    refine Eq.trans (World.cell?_of_block (Below.heap_setCell _ _ _ _ (by dsimp only; omega))) (Eq.trans (World.cell?_of_block (Below.heap_setCell _ _ _ _ (by dsimp only; omega))) (World.cell?_setCell_same _ _ _ q10))
  have x11 : X.cell? ⟨w.heap.size + 1 + 1, 0, none⟩ = some (.slice rn nums.size rcap) := by
    rw [hX]
    refine Eq.trans (World.cell?_of_block (Below.heap_setCell _ _ _ _ (by dsimp only; omega))) (World.cell?_setCell_same _ _ (.slice rn nums.size rcap) (u := .slice rn nums.size rcap) ?_)
    exact Eq.trans (World.cell?_of_block (Below.heap_setCell _ _ _ _ (by dsimp only; omega))) q11
  have x12 : X.cell? ⟨w.heap.size + 1 + 1 + 1, 0, none⟩ = some (.bool true) := by
    rw [hX]
    refine World.cell?_setCell_same _ _ _ (u := .bool false) ?_
    exact Eq.trans (World.cell?_of_block (Below.heap_setCell _ _ _ _ (by dsimp only; omega))) (Eq.trans (World.cell?_of_block (Below.heap_setCell _ _ _ _ (by dsimp only; omega))) q12)
  have szX : X.heap.size = V.heap.size := by rw [hX]; simp
  have BX : Aside (Below w.heap.size w X) := by show Below _ _ _; rw [hX]; exact (((BV.out.setCell (by dsimp only; omega) _).setCell (by dsimp only; omega) _).setCell (by dsimp only; omega) _).drew
  have NX : Aside (RdN X rn nums ∧ Holds2 X b 0 d' ∧ b < X.heap.size) := by
    show _ ∧ _ ∧ _
    obtain ⟨n1, n2, n3, n4⟩ := NV.out
    refine ⟨fun h0 => ?_, Holds2_of_block (hblk b (by omega) (by omega) (by omega)) n3, by omega⟩
    obtain ⟨blk, off, e, hl, hc⟩ := n1 h0
    have := n2 blk off e h0
    exact ⟨blk, off, e, by omega, fun i hi => (World.cell?_of_block (hblk blk (by omega) (by omega) (by omega))).trans (hc i hi)⟩
  clear q10 s10 q11 s11 q12 s12 NV BV hX hblk
  go_wp2_with fail
  refine leaves_cons (f := 39) (args := #[.pointer (some ⟨w.heap.size + 1 + 1 + 1, 0, none⟩)]) (by simp) (by simp [go_sem]) ?_
  refine (guarded_idle _ _).mono ?_
  rintro e u' w'' ⟨rfl, rfl, rfl⟩
  refine leaves_cons (f := 38) (args := #[.pointer (some ⟨w.heap.size + 1 + 1 + 1, 0, none⟩), .pointer (some ⟨w.heap.size + 1, 0, none⟩), .pointer (some ⟨w.heap.size + 1 + 1, 0, none⟩)]) (by simp [settle]) (by simp [go_sem]) ?_
  refine (inner1_idle _ _ _ _ _ x12).mono ?_
  rintro e u' w'' ⟨rfl, rfl, rfl⟩
  simp [Leaves, settle, results, Tryz.results28, go_sem, x10, x11, x12]
  obtain ⟨n1, n2, n3⟩ := NX.out
  have hd := D.out
  exact ⟨b, c2, rn, rcap, by rw [hd], by omega, n3, by rw [hd]; exact hcap, n2, n1, BX.out⟩
end Go.Proofs.YtglgmkikegbchaaGreat

/- impl.Inner, by the keys alone. -/
namespace Go.Proofs.YtglgmkikegbchaaGreat
open Go.RowKit Go.Sort

theorem holds2_setKey {w : World} {b i : Nat} {d : Array It} {x : Int} (h : Holds2 w b 0 d) (hi : i < d.size) :
    Holds2 (w.setCell ⟨b, 0 + i * 2, none⟩ (.int .i64 x)) b 0 (d.set! i (x, d[i]!.2)) := fun j hj => by
  have hj' : j < d.size := by simpa using hj
  obtain ⟨h1, h2, h3, h4⟩ := h j hj'
  refine ⟨?_, ?_, by rw [World.frozen?_setCell]; exact h3, by rw [World.frozen?_setCell]; exact h4⟩
  · by_cases e : j = i
    · subst e
      rw [World.cell?_setCell_same _ _ _ h1, Array.set!_eq_setIfInBounds, getElem!_pos _ _ (by simpa using hj'), Array.getElem_setIfInBounds_self]
    · rw [World.cell?_setCell_other _ _ _ _ (by intro he; injection he with _ he; omega), h1, Array.set!_eq_setIfInBounds, getElem!_pos (d.setIfInBounds _ _) _ (by simpa using hj'), Array.getElem_setIfInBounds_ne _ (by omega), getElem!_pos d j hj']
  · rw [World.cell?_setCell_other _ _ _ _ (by intro he; injection he with _ he; omega), h2]
    by_cases e : j = i
    · subst e
      rw [Array.set!_eq_setIfInBounds, getElem!_pos (d.setIfInBounds _ _) _ (by simpa using hj'), Array.getElem_setIfInBounds_self]
    · rw [Array.set!_eq_setIfInBounds, getElem!_pos (d.setIfInBounds _ _) _ (by simpa using hj'), Array.getElem_setIfInBounds_ne _ (by omega), getElem!_pos d j hj']

theorem own_grown' {B : Nat} {w0 w w' : World} {base : Nat} {e : TypeId} {size n : Nat} {v : Value} {xs : List Value} (h : w.ownsRow base e size v n xs) (hb : Below B w0 w) (hB : B ≤ base) (hBw : B ≤ w.heap.size) (hg : w.grownBy w' v.ownBlock) : Below B w0 w' := by
  refine hb.grown hg hBw (fun k ek => ?_)
  obtain ⟨_, ⟨rfl, _⟩ | ⟨g, cap, cur, rfl, e2, _⟩⟩ := h
  · cases ek
  · cases ek; exact Nat.le_trans hB e2

/-- Keys without tags. -/
def bare (ks : Array Int) : Array It := ks.map fun k => (k, 0)
theorem bare_size (ks : Array Int) : (bare ks).size = ks.size := by simp [bare]
theorem bare_get (ks : Array Int) (i : Nat) (h : i < ks.size) : (bare ks)[i]! = (ks[i]!, 0) := by
  rw [getElem!_pos _ _ (by rw [bare_size]; exact h), getElem!_pos ks i h]; simp [bare]

theorem own_row1 {w : World} {base n : Nat} {v : Value} {l : List Int} (h : w.ownsRow base 2 1 v n (l.map (Value.int .i64))) :
    v = .slice none 0 0 ∨ ∃ g cap, v = .slice (some ⟨g, 0, none⟩) n cap ∧ base ≤ g ∧ g < w.heap.size ∧ n ≤ cap ∧ Holds e64 w g 0 l.toArray := by
  obtain ⟨hl, ⟨rfl, h0⟩ | ⟨g, cap, cur, rfl, hb, hg, hnc, _, hcs, ht⟩⟩ := h
  · exact Or.inl rfl
  · have hgl : g < w.heap.size := by
      rcases Nat.lt_or_ge g w.heap.size with h | h
      · exact h
      · rw [Array.getElem?_eq_none h] at hg; cases hg
    rw [Nat.mul_one] at ht hl
    have hll : l.length = n := by simpa using hl
    refine Or.inr ⟨g, cap, rfl, hb, hgl, hnc, fun i hi => ?_⟩
    have hi' : i < l.length := by simpa using hi
    refine ⟨?_, by simp [World.frozen?, hg]⟩
    have hu : (l.map (Value.int .i64))[i]? = some (e64 l.toArray[i]!) := by
      rw [List.getElem?_map, List.getElem?_eq_getElem hi', getElem!_pos l.toArray i hi]; rfl
    rw [← ht, List.getElem?_take_of_lt (by omega)] at hu
    simp only [World.cell?, hg, Nat.zero_add]
    simpa using hu

set_option maxHeartbeats 4000000 in
set_option maxRecDepth 1000000 in
theorem inner_o (f : Int) (a : Option Addr) (cap : Nat) (ks ks' : Array Int) (o : Ordr) (hk0 : o.kind = 0) (na : Option Addr) (n ncap : Nat) (ns nums : Array Int) (w : World) (h : Rd2 w a (bare ks)) (hN : RdN w na ns) (hsz : ks.size ≤ 2000) (hd : ks'.size = ks.size)
    (hm : ∀ W, Calls Tryz.prog 40 #[.int .i64 f] W fun e w' => e = .returned (.int .i64 n) ∧ w' = W)
    (HB : ∀ (W : World) (b cap' : Nat), b < W.heap.size → Holds e64 W b 0 ks → RdN W na ns → Calls Tryz.prog 45 #[.int .i64 f, .slice (some ⟨b, 0, none⟩) ks.size cap', .slice na n ncap] W fun e W' => ∃ nv, e = .returned nv ∧ St1 e64 W b 0 ks' W' ∧ NumsAt W W' nv nums) :
    Calls Tryz.prog 28 #[.int .i64 2, .int .i64 f, .slice a ks.size cap, vOrd o, .slice na n ncap] w (InnerTo w (bare ks') nums) := by
  have H : Aside (Rd2 w a (bare ks) ∧ RdN w na ns) := ⟨h, hN⟩
  have hB : Aside (∀ (W : World) (b cap' : Nat), b < W.heap.size → Holds e64 W b 0 ks → RdN W na ns → Calls Tryz.prog 45 #[.int .i64 f, .slice (some ⟨b, 0, none⟩) ks.size cap', .slice na n ncap] W fun e W' => ∃ nv, e = .returned nv ∧ St1 e64 W b 0 ks' W' ∧ NumsAt W W' nv nums) := HB
  have D : Aside (ks'.size = ks.size) := hd
  obtain ⟨N, hNs⟩ : ∃ N, N = ks.size := ⟨_, rfl⟩
  have E : Aside (ks.size = N) := hNs.symm
  rw [← hNs]
  clear h hN HB hd
  obtain ⟨k, s, m0, m1, m2⟩ := o
  dsimp only at hk0
  subst hk0
  obtain ⟨i0, hi, hz0, hz1, hz2⟩ := info_parts (show (Tryz.prog.info? 2).map (fun i => (i.zero, i.size, i.bytes)) = some (some (.int .i64 0), 1, 8) by kernel_rfl)
  have hI : Aside (Tryz.prog.info? 2 = some i0 ∧ i0.zero = some (.int .i64 0) ∧ i0.size = 1 ∧ i0.bytes = 8) := ⟨hi, hz0, hz1, hz2⟩
  have hN2 : N ≤ 2000 := by omega
  clear hi hz0 hz1 hz2 hNs hsz
  go_enter_defers Tryz.func28, Tryz.ntmps28
  go_wp2_with fail
  refine (hm _).mono ?_
  rintro e W0 ⟨rfl, rfl⟩
  go_wp2_with fail
  have BX : Below w.heap.size w ((((w.alloc (.cells #[.int .i64 0, .int .i64 s, .int .u64 m0, .int .u64 m1, .int .u64 m2] 26)).alloc (.cells #[.slice none 0 0] 22)).alloc (.cells #[.slice none 0 0] 29)).alloc (.cells #[.bool false] 4)) :=
    Below.next (Below.next (Below.next (below_alloc _ _) (below_alloc _ _)) (below_alloc _ _)) (below_alloc _ _)
  have hcc := copied_calls a cap (bare ks) _ (H.out.1.keep BX) (by rw [bare_size, E.out]; exact hN2)
  rw [bare_size, E.out] at hcc
  refine hcc.mono ?_
  clear hcc
  rintro e w1 ⟨v, rfl, b, c2, rfl, hb1, hb2, hcap, hH, hbel⟩
  rw [bare_size, E.out] at hcap
  rw [bare_size, E.out]
  simp only [World.size_alloc] at hb1 hbel
  have hsz1 : w.heap.size + 4 ≤ w1.heap.size := by have := hbel.size; simpa using this
  obtain ⟨hb0, hb10, hb11, hb12⟩ := boxes4 hbel
  have k0 := cell_at (i := 0) hb0 rfl
  have k1 := cell_at (i := 1) hb0 rfl
  have k2 := cell_at (i := 2) hb0 rfl
  have k3 := cell_at (i := 3) hb0 rfl
  have k4 := cell_at (i := 4) hb0 rfl
  have c10 := cell_at (i := 0) hb10 rfl
  have f10 := frozen_at (i := 0) hb10
  have c11 := cell_at (i := 0) hb11 rfl
  have f11 := frozen_at (i := 0) hb11
  have c12 := cell_at (i := 0) hb12 rfl
  have f12 := frozen_at (i := 0) hb12
  clear hb0 hb10 hb11 hb12
  have B1 : Aside (Below w.heap.size w w1) := BX.trans (hbel.mono (by omega))
  have HH : Aside (Holds2 w1 b 0 (bare ks) ∧ RdN w na ns) := ⟨hH, H.out.2⟩
  clear hH hbel BX H
  go_upto_region 16 with fail
  obtain ⟨W, hW⟩ : ∃ W, W = (w1.setCell ⟨w.heap.size + 1, 0, none⟩ (.slice (some ⟨b, 0, none⟩) N c2)).alloc (.cells #[] 2) := ⟨_, rfl⟩
  rw [← hW]
  have ho : ∀ k, k < w1.heap.size → k ≠ w.heap.size + 1 → W.heap[k]? = w1.heap[k]? := fun k h1 h2 => by
    rw [hW, heap_alloc_old _ _ (by simpa using h1)]
    exact Below.heap_setCell _ _ _ _ h2
  have szW : W.heap.size = w1.heap.size + 1 := by rw [hW]; simp
  have BW : Aside (Below w.heap.size w W) := by show Below _ _ _; rw [hW]; exact (B1.out.setCell (by dsimp only; omega) _).alloc (by simp; omega) _
  have FW : Aside (W.cell? ⟨w.heap.size + 1, 0, none⟩ = some (.slice (some ⟨b, 0, none⟩) N c2) ∧ W.frozen? ⟨w.heap.size + 1, 0, none⟩ = false ∧ W.cell? ⟨w.heap.size + 1 + 1, 0, none⟩ = some (.slice none 0 0) ∧ W.frozen? ⟨w.heap.size + 1 + 1, 0, none⟩ = false ∧ W.cell? ⟨w.heap.size + 1 + 1 + 1, 0, none⟩ = some (.bool false) ∧ W.frozen? ⟨w.heap.size + 1 + 1 + 1, 0, none⟩ = false) := by
    have hx : ∀ p : Addr, p.block < w1.heap.size → W.cell? p = (w1.setCell ⟨w.heap.size + 1, 0, none⟩ (.slice (some ⟨b, 0, none⟩) N c2)).cell? p := fun p hp => by rw [hW]; exact World.cell?_of_block (heap_alloc_old _ _ (by simpa using hp))
    have hy : ∀ p : Addr, p.block < w1.heap.size → W.frozen? p = w1.frozen? p := fun p hp => by rw [hW]; exact (World.frozen?_of_block (heap_alloc_old _ _ (by simpa using hp))).trans (World.frozen?_setCell _ _ _ _)
    exact ⟨(hx _ (by dsimp only; omega)).trans (World.cell?_setCell_same _ _ _ c10), (hy _ (by dsimp only; omega)).trans f10, (World.cell?_of_block (ho _ (by dsimp only; omega) (by dsimp only; omega))).trans c11, (hy _ (by dsimp only; omega)).trans f11, (World.cell?_of_block (ho _ (by dsimp only; omega) (by dsimp only; omega))).trans c12, (hy _ (by dsimp only; omega)).trans f12⟩
  have HW : Aside (Holds2 W b 0 (bare ks) ∧ RdN W na ns) := ⟨Holds2_of_block (ho b hb2 (by omega)) HH.out.1, HH.out.2.keep BW.out⟩
  have OW : Aside (W.ownsRow w1.heap.size 2 1 (.slice (some ⟨w1.heap.size, 0, none⟩) 0 0) 0 ((ks.toList.take 0).map (Value.int .i64))) := ⟨rfl, Or.inr ⟨_, 0, #[], rfl, Nat.le_refl _, by rw [hW]; have := heap_alloc_new (w1.setCell ⟨w.heap.size + 1, 0, none⟩ (.slice (some ⟨b, 0, none⟩) N c2)) (.cells #[] 2); simpa using this, Nat.le_refl _, by decide, rfl, rfl⟩⟩
  have HN : Aside (RdN w na ns) := HH.out.2
  have q10 := FW.out.1
  clear k0 k1 k2 k3 k4 c10 f10 c11 f11 c12 f12 B1 HH ho hW
  go_wp2_with fail
  go_loopg [13, 51] N (fun g vk vi wr => ∃ i : Nat, vi = .int .i64 i ∧ i ≤ N ∧ N - i ≤ g ∧ Aside (wr.ownsRow w1.heap.size 2 1 vk i ((ks.toList.take i).map (Value.int .i64)) ∧ Below w1.heap.size W wr ∧ ¬ vk = .slice none 0 0))
  case atStart => exact ⟨0, rfl, Nat.zero_le _, by omega, OW, Below.refl _ _, by simp⟩
  case round =>
    obtain ⟨i, rfl, hin, hg, HO⟩ := hrel
    by_cases hlt : i < N
    · have hltz : (i : Int) < (N : Int) := by omega
      obtain ⟨x, hx⟩ : ∃ x, x = ks[i]! := ⟨_, rfl⟩
      have hh := HW.out.1 i (by rw [bare_size, E.out]; exact hlt)
      rw [bare_get _ _ (by rw [E.out]; exact hlt), ← hx] at hh
      have q1 := (HO.out.2.1.cell (p := ⟨b, 0 + i * 2, none⟩) hb2).trans hh.1
      have q2 := (HO.out.2.1.cell (p := ⟨b, 0 + i * 2 + 1, none⟩) hb2).trans hh.2.1
      rw [Nat.zero_add] at q1 q2
      dsimp only at q1 q2
      have szr := HO.out.2.1.size
      have O2 : Aside (((wr.alloc (.cells #[.int .i64 x, .int .i64 0] 49)).alloc (.cells #[.int .i64 x] 2)).ownsRow w1.heap.size 2 1 u13 i ((ks.toList.take i).map (Value.int .i64))) := own_below (own_below HO.out.1 (below_alloc _ _)) (below_alloc _ _)
      have B2 : Aside (Below w1.heap.size W ((wr.alloc (.cells #[.int .i64 x, .int .i64 0] 49)).alloc (.cells #[.int .i64 x] 2)) ∧ ¬ u13 = .slice none 0 0) := ⟨(HO.out.2.1.alloc (by omega) _).alloc (by simp; omega) _, HO.out.2.2⟩
      have X : Aside ((ks.toList.take (i + 1)).map (Value.int .i64) = (ks.toList.take i).map (Value.int .i64) ++ [.int .i64 x]) := by
        show _ = _
        rw [List.take_succ_eq_append_getElem (by simp [E.out]; exact hlt), List.map_append, hx, getElem!_pos ks i (by rw [E.out]; exact hlt)]
        rfl
      obtain ⟨hi, hz0, hz1, hz2⟩ := hI.out
      clear hh HO hx
      go_wp2_with (at_builtin; refine wpList_append_own _ rfl _ _ 62 rfl w1.heap.size 2 i0 (.int .i64 0) 1 8 Tryz.underlying62 hi hz0 hz1 hz2 rfl (by decide) _ i _ rfl O2.out ⟨wr.heap.size + 1, 0, none⟩ 1 1 [.int .i64 x] rfl rfl ?c1 ?c2 ?c3 ?c4 ?c5 ?_)
      case c1 =>
        intro j u hj
        match j, hj with
        | 0, hj => simp at hj; subst hj; simp [Addr.add, go_sem]
      case c2 => intro u hu; simp at hu; subst hu; rfl
      case c3 => unfold maxLen; omega
      case c4 => omega
      case c5 => simp; omega
      intro v' w2 hown' hgrow hnil
      have O3 : Aside (w2.ownsRow w1.heap.size 2 1 v' (i + 1) ((ks.toList.take (i + 1)).map (Value.int .i64)) ∧ Below w1.heap.size W w2 ∧ ¬ v' = .slice none 0 0) := by
        refine ⟨?_, own_grown' O2.out B2.out.1 (Nat.le_refl _) (by simp; omega) hgrow, hnil⟩
        rw [X.out]
        simpa [List.map_take] using hown'
      clear hi hz0 hz1 hz2 q1 q2 O2 B2 hown' hgrow hnil
      go_wp2_with fail
      go_roundg (N - (i + 1))
      case measure => omega
      case rel => exact ⟨i + 1, by go_num, by omega, by omega, O3⟩
    · have hltz : ¬ (i : Int) < (N : Int) := by omega
      have e0 : i = N := by omega
      subst e0
      obtain ⟨hO, hBr, hnn⟩ := HO.out
      have eL : (ks.toList.take i).map (Value.int .i64) = ks.toList.map (Value.int .i64) := by rw [← E.out, ← Array.length_toList, List.take_length]
      rw [eL] at hO
      rcases own_row1 hO with h | ⟨g, kc, rfl, hg1, hg2, hkc, hks⟩
      · exact absurd h hnn
      have hks' : Holds e64 wr g 0 ks := hks
      have szr := hBr.size
      have HY : Aside (Holds2 wr b 0 (bare ks) ∧ b < wr.heap.size ∧ Below w.heap.size w wr) := ⟨Holds2_of_block (hBr.block b hb2) HW.out.1, by omega, BW.out.trans (hBr.mono (by omega))⟩
      have hC := hB.out wr g kc hg2 hks' (HN.out.keep HY.out.2.2)
      rw [E.out] at hC
      obtain ⟨p10, r10, p11, r11, p12, r12⟩ := FW.out
      have p10 := (hBr.cell (p := ⟨w.heap.size + 1, 0, none⟩) (by dsimp only; omega)).trans p10
      have r10 := (hBr.frozen (p := ⟨w.heap.size + 1, 0, none⟩) (by dsimp only; omega)).trans r10
      have p11 := (hBr.cell (p := ⟨w.heap.size + 1 + 1, 0, none⟩) (by dsimp only; omega)).trans p11
      have r11 := (hBr.frozen (p := ⟨w.heap.size + 1 + 1, 0, none⟩) (by dsimp only; omega)).trans r11
      have p12 := (hBr.cell (p := ⟨w.heap.size + 1 + 1 + 1, 0, none⟩) (by dsimp only; omega)).trans p12
      have r12 := (hBr.frozen (p := ⟨w.heap.size + 1 + 1 + 1, 0, none⟩) (by dsimp only; omega)).trans r12
      clear hO hBr hnn HO eL hks hks' hB HW BW FW OW q10
      go_wp2_with fail
      refine hC.mono ?_
      rintro e W2 ⟨_, rfl, S2, rn, rcap, rfl, hrn, hrb⟩
      have g2 := S2.grown
      have sz2 := g2.size
      have s10 := (kept_cell g2 (p := ⟨w.heap.size + 1, 0, none⟩) (by dsimp only; omega) (by simp; omega)).trans p10
      have t10 := (kept_frozen g2 (p := ⟨w.heap.size + 1, 0, none⟩) (by dsimp only; omega) (by simp; omega)).trans r10
      have s11 := (kept_cell g2 (p := ⟨w.heap.size + 1 + 1, 0, none⟩) (by dsimp only; omega) (by simp; omega)).trans p11
      have t11 := (kept_frozen g2 (p := ⟨w.heap.size + 1 + 1, 0, none⟩) (by dsimp only; omega) (by simp; omega)).trans r11
      have s12 := (kept_cell g2 (p := ⟨w.heap.size + 1 + 1 + 1, 0, none⟩) (by dsimp only; omega) (by simp; omega)).trans p12
      have t12 := (kept_frozen g2 (p := ⟨w.heap.size + 1 + 1 + 1, 0, none⟩) (by dsimp only; omega) (by simp; omega)).trans r12
      have B2 : Aside (Below w.heap.size w W2) := below_grownBy HY.out.2.2 g2 (by omega) (by omega)
      have N2 : Aside (RdN W2 rn nums ∧ (∀ blk off, rn = some ⟨blk, off, none⟩ → 0 < nums.size → wr.heap.size ≤ blk) ∧ Holds2 W2 b 0 (bare ks) ∧ Holds e64 W2 g 0 ks' ∧ g < W2.heap.size) := ⟨hrn, hrb, Holds2_of_block (g2.block b (by omega) (by simp; omega)) HY.out.1, S2.holds, S2.lt⟩
      clear S2 hrn hrb g2 p10 r10 p11 r11 p12 r12 hC HY HN
      go_upto_region 24 with fail
      obtain ⟨V, hV⟩ : ∃ V, V = W2.setCell ⟨w.heap.size + 1 + 1, 0, none⟩ (.slice rn nums.size rcap) := ⟨_, rfl⟩
      rw [← hV]
      have hblk : ∀ k, k ≠ w.heap.size + 1 + 1 → V.heap[k]? = W2.heap[k]? := fun k h => by rw [hV]; exact Below.heap_setCell _ _ _ _ h
      have szV : V.heap.size = W2.heap.size := by rw [hV]; simp
      have FV : Aside (V.cell? ⟨w.heap.size + 1, 0, none⟩ = some (.slice (some ⟨b, 0, none⟩) i c2) ∧ V.frozen? ⟨w.heap.size + 1, 0, none⟩ = false ∧ V.cell? ⟨w.heap.size + 1 + 1, 0, none⟩ = some (.slice rn nums.size rcap) ∧ V.frozen? ⟨w.heap.size + 1 + 1, 0, none⟩ = false ∧ V.cell? ⟨w.heap.size + 1 + 1 + 1, 0, none⟩ = some (.bool false) ∧ V.frozen? ⟨w.heap.size + 1 + 1 + 1, 0, none⟩ = false) :=
        ⟨(World.cell?_of_block (hblk _ (by dsimp only; omega))).trans s10, (World.frozen?_of_block (hblk _ (by dsimp only; omega))).trans t10, by rw [hV]; exact World.cell?_setCell_same _ _ _ s11, by rw [hV, World.frozen?_setCell]; exact t11, (World.cell?_of_block (hblk _ (by dsimp only; omega))).trans s12, (World.frozen?_of_block (hblk _ (by dsimp only; omega))).trans t12⟩
      have BV : Aside (Below w.heap.size w V) := by show Below _ _ _; rw [hV]; exact B2.out.setCell (by dsimp only; omega) _
      have NV : Aside (RdN V rn nums ∧ (∀ blk off, rn = some ⟨blk, off, none⟩ → 0 < nums.size → w.heap.size + 4 ≤ blk ∧ blk ≠ b) ∧ Holds2 V b 0 (bare ks) ∧ Holds e64 V g 0 ks') := by
        obtain ⟨n1, n2, n3, n4, n5⟩ := N2.out
        refine ⟨fun h0 => ?_, fun blk off e h0 => by have := n2 blk off e h0; exact ⟨by omega, by omega⟩, Holds2_of_block (hblk b (by omega)) n3, fun j hj => ⟨(World.cell?_of_block (hblk g (by omega))).trans (n4 j hj).1, (World.frozen?_of_block (hblk g (by omega))).trans (n4 j hj).2⟩⟩
        obtain ⟨blk, off, e, hl, hc⟩ := n1 h0
        have := n2 blk off e h0
        exact ⟨blk, off, e, by omega, fun i hi => (World.cell?_of_block (hblk blk (by omega))).trans (hc i hi)⟩
      have hbg : b ≠ g := by omega
      have hgV : g < V.heap.size := by have := N2.out.2.2.2.2; omega
      clear s10 t10 s11 t11 s12 t12 N2 B2 hV hblk
      go_wp2_with fail
      go_loopg [16, 17, 70] i (fun gg _ _ vi wy => ∃ (j : Nat) (dj : Array It), vi = .int .i64 j ∧ j ≤ i ∧ i - j ≤ gg ∧ Aside (dj.size = i ∧ Holds2 wy b 0 dj ∧ (∀ k, k < j → dj[k]! = (ks'[k]!, 0)) ∧ (∀ k, j ≤ k → k < i → dj[k]!.2 = 0) ∧ V.grownBy wy (some b)))
      case atStart => exact ⟨0, bare ks, rfl, Nat.zero_le _, by omega, by rw [bare_size]; exact E.out, NV.out.2.2.1, fun k hk => absurd hk (by omega), fun k _ hk => by rw [bare_get _ _ (by rw [E.out]; exact hk)], World.grownBy.refl _ _⟩
      case round =>
        obtain ⟨j, dj, rfl, hji, hgj, HO⟩ := hrel
        by_cases hlj : j < i
        · have hljz : (j : Int) < (i : Int) := by omega
          obtain ⟨hds, hdh, hd1, hd2, hdg⟩ := HO.out
          obtain ⟨x, hx⟩ : ∃ x, x = ks'[j]! := ⟨_, rfl⟩
          have hszy := hdg.size
          have q10 := (kept_cell hdg (p := ⟨w.heap.size + 1, 0, none⟩) (by dsimp only; omega) (by simp; omega)).trans FV.out.1
          have qk := (kept_cell hdg (p := ⟨g, 0 + j, none⟩) hgV (by simp; omega)).trans (NV.out.2.2.2 j (by rw [D.out, E.out]; exact hlj)).1
          rw [Nat.zero_add, ← hx] at qk
          have hh := hdh j (by omega)
          have qd := hh.1
          have fd := hh.2.2.1
          rw [Nat.zero_add] at qd fd
          simp only [e64] at qk
          have NX : Aside ((dj.set! j (x, dj[j]!.2)).size = i ∧ Holds2 (wr.setCell ⟨b, j * 2, none⟩ (.int .i64 x)) b 0 (dj.set! j (x, dj[j]!.2)) ∧ (∀ k, k < j + 1 → (dj.set! j (x, dj[j]!.2))[k]! = (ks'[k]!, 0)) ∧ (∀ k, j + 1 ≤ k → k < i → (dj.set! j (x, dj[j]!.2))[k]!.2 = 0) ∧ V.grownBy (wr.setCell ⟨b, j * 2, none⟩ (.int .i64 x)) (some b)) := by
            have hset : ∀ k, k < i → (dj.set! j (x, dj[j]!.2))[k]! = if k = j then (x, dj[j]!.2) else dj[k]! := fun k hk => by
              rw [Array.set!_eq_setIfInBounds, getElem!_pos (dj.setIfInBounds _ _) k (by simpa using (by omega : k < dj.size))]
              by_cases e : k = j
              · subst e; rw [if_pos rfl, Array.getElem_setIfInBounds_self]
              · rw [if_neg e, Array.getElem_setIfInBounds_ne _ (by omega), getElem!_pos dj k (by omega)]
            refine ⟨by simpa using hds, by have := holds2_setKey (x := x) hdh (i := j) (by omega); rwa [Nat.zero_add] at this, fun k hk => ?_, fun k h1 h2 => ?_, Go.Lib.grownBy_setB hdg _ _⟩
            · rw [hset k (by omega)]
              by_cases e : k = j
              · subst e; rw [if_pos rfl, hd2 k (Nat.le_refl _) hlj, hx]
              · rw [if_neg e]; exact hd1 k (by omega)
            · rw [hset k h2, if_neg (by omega)]; exact hd2 k (by omega) h2
          clear hds hdh hd1 hd2 hdg HO hh hx
          go_wp2_with fail
          go_roundg (i - (j + 1))
          case measure => omega
          case rel => exact ⟨j + 1, _, by go_num, by omega, by omega, NX⟩
        · have hljz : ¬ (j : Int) < (i : Int) := by omega
          have e0 : j = i := by omega
          subst e0
          obtain ⟨hds, hdh, hd1, _, hdg⟩ := HO.out
          have hfin : dj = bare ks' := by
            refine Array.ext (by rw [hds, bare_size, D.out, E.out]) (fun k h1 h2 => ?_)
            have hk : k < j := by omega
            have := hd1 k hk
            rw [getElem!_pos dj k h1] at this
            rw [this, ← bare_get ks' k (by rw [D.out, E.out]; exact hk), getElem!_pos (bare ks') k h2]
          rw [hfin] at hdh
          have hszy := hdg.size
          obtain ⟨u10, v10, u11, v11, u12, v12⟩ := FV.out
          replace u10 := (kept_cell hdg (p := ⟨w.heap.size + 1, 0, none⟩) (by dsimp only; omega) (by simp; omega)).trans u10
          replace v10 := (kept_frozen hdg (p := ⟨w.heap.size + 1, 0, none⟩) (by dsimp only; omega) (by simp; omega)).trans v10
          replace u11 := (kept_cell hdg (p := ⟨w.heap.size + 1 + 1, 0, none⟩) (by dsimp only; omega) (by simp; omega)).trans u11
          replace v11 := (kept_frozen hdg (p := ⟨w.heap.size + 1 + 1, 0, none⟩) (by dsimp only; omega) (by simp; omega)).trans v11
          replace u12 := (kept_cell hdg (p := ⟨w.heap.size + 1 + 1 + 1, 0, none⟩) (by dsimp only; omega) (by simp; omega)).trans u12
          replace v12 := (kept_frozen hdg (p := ⟨w.heap.size + 1 + 1 + 1, 0, none⟩) (by dsimp only; omega) (by simp; omega)).trans v12
          have BU : Aside (Below w.heap.size w wr) := below_grownBy BV.out hdg (by omega) (by omega)
          have NU : Aside (RdN wr rn nums ∧ (∀ blk off, rn = some ⟨blk, off, none⟩ → 0 < nums.size → w.heap.size + 4 ≤ blk) ∧ Holds2 wr b 0 (bare ks') ∧ b < wr.heap.size) := by
            obtain ⟨n1, n2, _, _⟩ := NV.out
            refine ⟨fun h0 => ?_, fun blk off e h0 => (n2 blk off e h0).1, hdh, by omega⟩
            obtain ⟨blk, off, e, hl, hc⟩ := n1 h0
            have := n2 blk off e h0
            exact ⟨blk, off, e, by omega, fun i hi => (kept_cell hdg (p := ⟨blk, off + i, none⟩) hl (by simp; omega)).trans (hc i hi)⟩
          clear hds hdh hd1 hdg HO NV BV FV hfin
          go_wp2_with fail
          go_region
          obtain ⟨X, hX⟩ : ∃ X, X = (((wr.setCell ⟨w.heap.size + 1, 0, none⟩ (.slice (some ⟨b, 0, none⟩) j c2)).setCell ⟨w.heap.size + 1 + 1, 0, none⟩ (.slice rn nums.size rcap)).setCell ⟨w.heap.size + 1 + 1 + 1, 0, none⟩ (.bool true)).drew := ⟨_, rfl⟩
          rw [← hX]
          have hblk : ∀ k, k ≠ w.heap.size + 1 → k ≠ w.heap.size + 1 + 1 → k ≠ w.heap.size + 1 + 1 + 1 → X.heap[k]? = wr.heap[k]? := fun k h1 h2 h3 => by
            rw [hX]
            exact (Below.heap_setCell _ _ _ _ h3).trans ((Below.heap_setCell _ _ _ _ h2).trans (Below.heap_setCell _ _ _ _ h1))
          have x10 : X.cell? ⟨w.heap.size + 1, 0, none⟩ = some (.slice (some ⟨b, 0, none⟩) j c2) := by
            rw [hX]
            refine Eq.trans (World.cell?_of_block (Below.heap_setCell _ _ _ _ (by dsimp only; omega))) (Eq.trans (World.cell?_of_block (Below.heap_setCell _ _ _ _ (by dsimp only; omega))) (World.cell?_setCell_same _ _ _ u10))
          have x11 : X.cell? ⟨w.heap.size + 1 + 1, 0, none⟩ = some (.slice rn nums.size rcap) := by
            rw [hX]
            refine Eq.trans (World.cell?_of_block (Below.heap_setCell _ _ _ _ (by dsimp only; omega))) (World.cell?_setCell_same _ _ (.slice rn nums.size rcap) (u := .slice rn nums.size rcap) ?_)
            exact Eq.trans (World.cell?_of_block (Below.heap_setCell _ _ _ _ (by dsimp only; omega))) u11
          have x12 : X.cell? ⟨w.heap.size + 1 + 1 + 1, 0, none⟩ = some (.bool true) := by
            rw [hX]
            refine World.cell?_setCell_same _ _ _ (u := .bool false) ?_
            exact Eq.trans (World.cell?_of_block (Below.heap_setCell _ _ _ _ (by dsimp only; omega))) (Eq.trans (World.cell?_of_block (Below.heap_setCell _ _ _ _ (by dsimp only; omega))) u12)
          have szX2 : X.heap.size = wr.heap.size := by rw [hX]; simp
          have BX : Aside (Below w.heap.size w X) := by show Below _ _ _; rw [hX]; exact (((BU.out.setCell (by dsimp only; omega) _).setCell (by dsimp only; omega) _).setCell (by dsimp only; omega) _).drew
          have NX : Aside (RdN X rn nums ∧ Holds2 X b 0 (bare ks') ∧ b < X.heap.size) := by
            show _ ∧ _ ∧ _
            obtain ⟨n1, n2, n3, n4⟩ := NU.out
            refine ⟨fun h0 => ?_, Holds2_of_block (hblk b (by omega) (by omega) (by omega)) n3, by omega⟩
            obtain ⟨blk, off, e, hl, hc⟩ := n1 h0
            have := n2 blk off e h0
            exact ⟨blk, off, e, by omega, fun i hi => (World.cell?_of_block (hblk blk (by omega) (by omega) (by omega))).trans (hc i hi)⟩
          clear u10 v10 u11 v11 u12 v12 NU BU hX hblk
          go_wp2_with fail
          refine leaves_cons (f := 39) (args := #[.pointer (some ⟨w.heap.size + 1 + 1 + 1, 0, none⟩)]) (by simp) (by simp [go_sem]) ?_
          refine (guarded_idle _ _).mono ?_
          rintro e u' w'' ⟨rfl, rfl, rfl⟩
          refine leaves_cons (f := 38) (args := #[.pointer (some ⟨w.heap.size + 1 + 1 + 1, 0, none⟩), .pointer (some ⟨w.heap.size + 1, 0, none⟩), .pointer (some ⟨w.heap.size + 1 + 1, 0, none⟩)]) (by simp [settle]) (by simp [go_sem]) ?_
          refine (inner1_idle _ _ _ _ _ x12).mono ?_
          rintro e u' w'' ⟨rfl, rfl, rfl⟩
          simp [Leaves, settle, results, Tryz.results28, go_sem, x10, x11, x12]
          obtain ⟨n1, n2, n3⟩ := NX.out
          have hd : (bare ks').size = j := by rw [bare_size, D.out, E.out]
          exact ⟨b, c2, rn, rcap, by rw [hd], by omega, n3, by rw [hd]; exact hcap, n2, n1, BX.out⟩
end Go.Proofs.YtglgmkikegbchaaGreat

/- Each inner function permutes its part, whatever comes of comparing. -/
namespace Go.Proofs.YtglgmkikegbchaaGreat
open Go.Sort Go.RowKit
section
variable {α : Type} [Inhabited α]
theorem perm_swapRange (_lt : α → α → Bool) (d : Array α) (X Y Z : Nat) (h1 : min X Y + Z ≤ max X Y) (h2 : max X Y + Z ≤ d.size) : PermIn (min X Y) (max X Y + Z) d (swapRange d X Y Z) := swapRange_perm _ _ d X Y Z (by omega) (by omega) (by omega) (by omega) h2
theorem perm_reverseRange (_lt : α → α → Bool) (d : Array α) (X Y : Nat) (h1 : X ≤ Y) (h2 : Y ≤ d.size) : PermIn X Y d (reverseRange d X Y) := reverseRange_holds d X Y h1 h2
theorem perm_rotate (_lt : α → α → Bool) (d : Array α) (X Y Z : Nat) (h1 : X < Y) (h2 : Y < Z) (h3 : Z ≤ d.size) : PermIn X Z d (rotate d X Y Z) := (rotate_spec d X Y Z h1 h2 h3).2
theorem perm_breakPatterns (_lt : α → α → Bool) (d : Array α) (X Y : Nat) (h1 : X ≤ Y) (h2 : Y ≤ d.size) : PermIn X Y d (breakPatterns d X Y) := breakPatterns_holds d X Y h1 h2
theorem perm_insertionSort (lt : α → α → Bool) (d : Array α) (X Y : Nat) (_h1 : X ≤ Y) (h2 : Y ≤ d.size) : PermIn X Y d (insertionSort lt d X Y) := insertionSort_perm d X Y h2
theorem perm_heapSort (lt : α → α → Bool) (d : Array α) (X Y : Nat) (h1 : X ≤ Y) (h2 : Y ≤ d.size) : PermIn X Y d (heapSort lt d X Y) := heapSort_perm d X Y h1 h2
theorem perm_siftDown (lt : α → α → Bool) (d : Array α) (X Y Z : Nat) (_h1 : X < Y) (h2 : Z + Y ≤ d.size) : PermIn Z (Z + Y) d (siftDown lt Y Z X d) := siftDown_perm Z (Z + Y) Y Z (Nat.le_refl _) (Nat.le_refl _) _ X d (Nat.le_refl _) h2
theorem perm_symMerge (lt : α → α → Bool) (d : Array α) (X Y Z : Nat) (h1 : X < Y) (h2 : Y < Z) (h3 : Z ≤ d.size) : PermIn X Z d (symMerge lt d X Y Z) := symMerge_perm lt _ X Y Z d (Nat.le_refl _) h1 h2 h3
theorem perm_stable (lt : α → α → Bool) (d : Array α) (X : Nat) (h1 : X ≤ d.size) : PermIn 0 X d (stable lt d X) := by
  have p1 := insBlocks_perm lt 20 X _ 0 d (Nat.le_refl _) h1 (fun d a b h => insertionSort_perm d a b h)
  exact permIn_trans _ _ _ _ _ p1 (stableLoop_perm lt X _ 20 _ (Nat.le_refl _) (by rw [p1.1]; exact h1))
theorem perm_pdqsort (lt : α → α → Bool) (d : Array α) (X Y Z : Nat) (h1 : X ≤ Y) (h2 : Y ≤ d.size) (_h3 : Z ≤ 64) : PermIn 0 Y d (pdq lt d X Y Z true true) := pdq_any lt d X Y Z true true h1 h2
theorem perm_partition (lt : α → α → Bool) (d : Array α) (X Y Z : Nat) (_h1 : X ≤ Y) (h2 : Y ≤ d.size) (h3 : X ≤ Z) (h4 : Z < Y) : PermIn X Y d (partition lt d X Y Z).2.2 := (partition_any d X Y Z h3 h4 h2).2.2
theorem perm_partitionEqual (lt : α → α → Bool) (d : Array α) (X Y Z : Nat) (_h1 : X ≤ Y) (h2 : Y ≤ d.size) (h3 : X ≤ Z) (h4 : Z < Y) : PermIn X Y d (partitionEqual lt d X Y Z).2 := (partitionEqual_any d X Y Z h3 h4 h2).2.2
theorem perm_partialInsertionSort (lt : α → α → Bool) (d : Array α) (X Y : Nat) (h1 : X < Y) (h2 : Y ≤ d.size) : PermIn 0 Y d (partialInsertionSort lt d X Y).1 := partialInsertionSort_perm d X Y h1 h2
theorem size_swapRange' (_lt : α → α → Bool) (d : Array α) (X Y Z : Nat) (_h1 : X + Z ≤ d.size) (_h2 : Y + Z ≤ d.size) : (swapRange d X Y Z).size = d.size := size_swapRange d X Y Z
theorem size_reverseRange (_lt : α → α → Bool) (d : Array α) (X Y : Nat) (h1 : X ≤ Y) (h2 : Y ≤ d.size) : (reverseRange d X Y).size = d.size := (reverseRange_holds d X Y h1 h2).1
theorem size_rotate (_lt : α → α → Bool) (d : Array α) (X Y Z : Nat) (h1 : X < Y) (h2 : Y < Z) (h3 : Z ≤ d.size) : (rotate d X Y Z).size = d.size := (rotate_spec d X Y Z h1 h2 h3).2.1
theorem size_breakPatterns (_lt : α → α → Bool) (d : Array α) (X Y : Nat) (h1 : X ≤ Y) (h2 : Y ≤ d.size) : (breakPatterns d X Y).size = d.size := (breakPatterns_holds d X Y h1 h2).1
theorem size_insertionSort (lt : α → α → Bool) (d : Array α) (X Y : Nat) (h1 : X ≤ Y) (h2 : Y ≤ d.size) : (insertionSort lt d X Y).size = d.size := (perm_insertionSort lt d X Y h1 h2).1
theorem size_heapSort (lt : α → α → Bool) (d : Array α) (X Y : Nat) (h1 : X ≤ Y) (h2 : Y ≤ d.size) : (heapSort lt d X Y).size = d.size := (perm_heapSort lt d X Y h1 h2).1
theorem size_siftDown' (lt : α → α → Bool) (d : Array α) (X Y Z : Nat) (h1 : X < Y) (h2 : Z + Y ≤ d.size) : (siftDown lt Y Z X d).size = d.size := (perm_siftDown lt d X Y Z h1 h2).1
theorem size_symMerge (lt : α → α → Bool) (d : Array α) (X Y Z : Nat) (h1 : X < Y) (h2 : Y < Z) (h3 : Z ≤ d.size) : (symMerge lt d X Y Z).size = d.size := (perm_symMerge lt d X Y Z h1 h2 h3).1
theorem size_stable (lt : α → α → Bool) (d : Array α) (X : Nat) (h1 : X ≤ d.size) : (stable lt d X).size = d.size := (perm_stable lt d X h1).1
theorem size_pdqsort (lt : α → α → Bool) (d : Array α) (X Y Z : Nat) (h1 : X ≤ Y) (h2 : Y ≤ d.size) (h3 : Z ≤ 64) : (pdq lt d X Y Z true true).size = d.size := (perm_pdqsort lt d X Y Z h1 h2 h3).1
theorem size_partition (lt : α → α → Bool) (d : Array α) (X Y Z : Nat) (h1 : X ≤ Y) (h2 : Y ≤ d.size) (h3 : X ≤ Z) (h4 : Z < Y) : (partition lt d X Y Z).2.2.size = d.size := (perm_partition lt d X Y Z h1 h2 h3 h4).1
theorem size_partitionEqual (lt : α → α → Bool) (d : Array α) (X Y Z : Nat) (h1 : X ≤ Y) (h2 : Y ≤ d.size) (h3 : X ≤ Z) (h4 : Z < Y) : (partitionEqual lt d X Y Z).2.size = d.size := (perm_partitionEqual lt d X Y Z h1 h2 h3 h4).1
theorem size_partialInsertionSort (lt : α → α → Bool) (d : Array α) (X Y : Nat) (h1 : X < Y) (h2 : Y ≤ d.size) : (partialInsertionSort lt d X Y).1.size = d.size := (perm_partialInsertionSort lt d X Y h1 h2).1
end
/-- A truth value as a number. -/
def flagN (b : Bool) : Int := if b then 1 else 0
theorem ltC_bare (o : Ordr) (h : o.kind = 0) (x y : Int) : ltC (cfO o) (x, 0) (y, 0) = ltInt x y := by
  unfold ltC ltInt cfO
  simp only [h]
  simp [sg]
  by_cases h1 : x < y
  · simp [h1]
  · by_cases h2 : y < x <;> simp [h1, h2]
end Go.Proofs.YtglgmkikegbchaaGreat

/- Numbers that are told: a truth value as a number; a row of numbers that is new. -/
namespace Go.Proofs.YtglgmkikegbchaaGreat
open Go.RowKit Go.Sort

theorem flag_calls (b : Bool) (w : World) : Calls Tryz.prog 66 #[.bool b] w fun e w' => e = .returned (.int .i64 (flagN b)) ∧ w' = w := by
  cases b
  · go_enter Tryz.func66, Tryz.ntmps66
    go_wp2
    go_ret
    exact ⟨rfl, rfl⟩
  · go_enter Tryz.func66, Tryz.ntmps66
    go_wp2
    go_ret
    exact ⟨rfl, rfl⟩

theorem nums_new (W V : World) (nums : Array Int) (cells : Array Value) (t : TypeId) (h : cells = nums.map (Value.int .i64)) (hs : W.heap.size ≤ V.heap.size) :
    NumsAt W (V.alloc (.cells cells t)) (.slice (some ⟨V.heap.size, 0, none⟩) nums.size nums.size) nums := by
  subst h
  have hb : (V.alloc (.cells (nums.map (Value.int .i64)) t)).heap[V.heap.size]? = some (.cells (nums.map (Value.int .i64)) t (0, 0)) := heap_alloc_new V _
  refine ⟨_, _, rfl, fun _ => ⟨_, 0, rfl, by simp, fun i hi => ?_⟩, fun blk off e _ => ?_⟩
  · rw [Nat.zero_add]
    exact cell_at hb (by rw [Array.getElem?_map, Array.getElem?_eq_getElem hi, getElem!_pos nums i hi]; rfl)
  · cases e
    exact hs
end Go.Proofs.YtglgmkikegbchaaGreat

/- laws.does. -/
namespace Go.Proofs.YtglgmkikegbchaaGreat
open Go.RowKit Go.Sort

/-- An order's box, its cells laid for the walk. -/
def BoxK (w : World) (b : Nat) (k s m0 m1 m2 : Int) : Prop := b < w.heap.size ∧ w.cell? ⟨b, 0, none⟩ = some (.int .i64 k) ∧ w.cell? ⟨b, 1, none⟩ = some (.int .i64 s) ∧ w.cell? ⟨b, 2, none⟩ = some (.int .u64 m0) ∧ w.cell? ⟨b, 3, none⟩ = some (.int .u64 m1) ∧ w.cell? ⟨b, 4, none⟩ = some (.int .u64 m2)
theorem BoxK.keep {w w' : World} {b : Nat} {k s m0 m1 m2 : Int} (h : BoxK w b k s m0 m1 m2) (hb : Below w.heap.size w w') : BoxK w' b k s m0 m1 m2 := by
  obtain ⟨h0, k0, k1, k2, k3, k4⟩ := h
  exact ⟨Nat.lt_of_lt_of_le h0 hb.size, (hb.cell (by exact h0)).trans k0, (hb.cell (by exact h0)).trans k1, (hb.cell (by exact h0)).trans k2, (hb.cell (by exact h0)).trans k3, (hb.cell (by exact h0)).trans k4⟩
theorem boxK_new (w : World) (k s m0 m1 m2 : Int) (t : TypeId) : BoxK (w.alloc (.cells #[.int .i64 k, .int .i64 s, .int .u64 m0, .int .u64 m1, .int .u64 m2] t)) w.heap.size k s m0 m1 m2 := ⟨by simp, by simp [go_sem], by simp [go_sem], by simp [go_sem], by simp [go_sem], by simp [go_sem]⟩

set_option maxHeartbeats 4000000 in
set_option maxRecDepth 1000000 in
theorem does_calls (t f : Int) (a na : Option Addr) (cap n ncap : Nat) (d d' : Array It) (o : Ordr) (ns nums : Array Int) (OK RDY : Bool) (w : World) (h : Rd2 w a d) (hN : RdN w na ns)
    (HN : ∀ W, RdN W na ns → Calls Tryz.prog 26 #[.int .i64 f, .int .i64 d.size, .slice na n ncap] W fun e w' => ∃ x y, e = .returned (.tuple #[x, y, .bool OK]) ∧ Below W.heap.size W w')
    (HR : OK = true → fitsB d.size o = true → textB t d o = true → ∀ W, Rd2 W a d → RdN W na ns → Calls Tryz.prog 34 #[.int .i64 f, .slice a d.size cap, vOrd o, .slice na n ncap] W fun e w' => e = .returned (.bool RDY) ∧ Below W.heap.size W w')
    (HI : OK = true → RDY = true → fitsB d.size o = true → o.kind ≠ 3 → textB t d o = true → ∀ W, Rd2 W a d → RdN W na ns → Calls Tryz.prog 28 #[.int .i64 t, .int .i64 f, .slice a d.size cap, vOrd o, .slice na n ncap] W (InnerTo W d' nums))
    (HD : OK = true → RDY = true → fitsB d.size o = true → o.kind ≠ 3 → textB t d o = true → ∀ W b bcap ra rcap, Rd2 W a d → RdN W na ns → b < W.heap.size → d'.size ≤ bcap → Holds2 W b 0 d' → RdN W ra nums → Calls Tryz.prog 35 #[.int .i64 f, .slice a d.size cap, vOrd o, .slice na n ncap, .slice (some ⟨b, 0, none⟩) d'.size bcap, .slice ra nums.size rcap] W fun e w' => e = .returned (.bool true) ∧ Below W.heap.size W w') :
    Calls Tryz.prog 22 #[.int .i64 t, .int .i64 f, .slice a d.size cap, vOrd o, .slice na n ncap] w fun e w' => e = .returned (.bool true) ∧ Below w.heap.size w w' := by
  obtain ⟨k, s, m0, m1, m2⟩ := o
  obtain ⟨F, hF⟩ : ∃ F, F = fitsB d.size ⟨k, s, m0, m1, m2⟩ := ⟨_, rfl⟩
  obtain ⟨I, hI⟩ : ∃ I, I = (k != 3) := ⟨_, rfl⟩
  obtain ⟨T, hT⟩ : ∃ T, T = textB t d ⟨k, s, m0, m1, m2⟩ := ⟨_, rfl⟩
  have fits := fun W => fits_calls a cap d.size ⟨k, s, m0, m1, m2⟩ W
  have isC := fun W => is_calls ⟨k, s, m0, m1, m2⟩ W
  have text := fun W h hz => text_calls t a cap d.size d ⟨k, s, m0, m1, m2⟩ W h rfl hz
  dsimp only at isC
  rw [← hF] at fits HR HI HD
  rw [← hI] at isC
  rw [← hT] at text HR HI HD
  have hz : F = true → d.size ≤ 2000 := fun e => by
    rw [e] at hF
    unfold fitsB at hF
    simp only [Bool.true_eq, Bool.and_eq_true, decide_eq_true_eq] at hF
    exact hF.1.1.1.1
  have h3 : I = true → k ≠ 3 := fun e => by
    rw [e] at hI
    simpa using hI.symm
  have B0 : Aside (Below w.heap.size w (w.alloc (.cells #[.int .i64 k, .int .i64 s, .int .u64 m0, .int .u64 m1, .int .u64 m2] 26))) := below_alloc _ _
  have K0 : Aside (BoxK (w.alloc (.cells #[.int .i64 k, .int .i64 s, .int .u64 m0, .int .u64 m1, .int .u64 m2] 26)) w.heap.size k s m0 m1 m2) := boxK_new _ _ _ _ _ _ _
  have R0 : Aside (Rd2 w a d ∧ RdN w na ns) := ⟨h, hN⟩
  have QR : Aside _ := HR
  have QI : Aside _ := HI
  have QD : Aside _ := HD
  have Qz : Aside _ := hz
  have Q3 : Aside _ := h3
  clear h hN hF hI hT HR HI HD hz h3
  go_enter Tryz.func22, Tryz.ntmps22
  go_wp2_with fail
  refine (fits _).mono ?_
  rintro e w1 ⟨rfl, hb⟩
  have B1 : Aside (Below w.heap.size w w1) := Below.next B0.out hb
  have K1 : Aside (BoxK w1 w.heap.size k s m0 m1 m2) := K0.out.keep hb
  clear hb K0 B0 fits
  cases F with
  | false =>
    go_wp2_with fail
    refine (works_calls _).mono ?_
    rintro e w2 ⟨rfl, hb⟩
    go_wp2_with fail
    go_ret
    exact ⟨rfl, Below.next B1.out hb⟩
  | true =>
    obtain ⟨_, k0, k1, k2, k3, k4⟩ := K1.out
    go_wp2_with fail
    refine (isC _).mono ?_
    rintro e w2 ⟨rfl, hb⟩
    have B2 : Aside (Below w.heap.size w w2) := Below.next B1.out hb
    have K2 : Aside (BoxK w2 w.heap.size k s m0 m1 m2) := K1.out.keep hb
    clear hb K1 B1 isC k0 k1 k2 k3 k4
    cases I with
    | false =>
      go_wp2_with fail
      refine (works_calls _).mono ?_
      rintro e w2 ⟨rfl, hb⟩
      go_wp2_with fail
      go_ret
      exact ⟨rfl, Below.next B2.out hb⟩
    | true =>
      obtain ⟨_, k0, k1, k2, k3, k4⟩ := K2.out
      have hx := text w2 (R0.out.1.keep B2.out) (Qz.out (by trivial))
      go_wp2_with fail
      refine hx.mono ?_
      rintro e w3 ⟨rfl, hb⟩
      have B3 : Aside (Below w.heap.size w w3) := Below.next B2.out hb
      have K3 : Aside (BoxK w3 w.heap.size k s m0 m1 m2) := K2.out.keep hb
      clear hb K2 B2 text hx k0 k1 k2 k3 k4
      cases T with
      | false =>
        go_wp2_with fail
        refine (works_calls _).mono ?_
        rintro e w2 ⟨rfl, hb⟩
        go_wp2_with fail
        go_ret
        exact ⟨rfl, Below.next B3.out hb⟩
      | true =>
        have hx := HN w3 (R0.out.2.keep B3.out)
        go_wp2_with fail
        refine hx.mono ?_
        rintro e w4 ⟨x, y, rfl, hb⟩
        have B4 : Aside (Below w.heap.size w w4) := Below.next B3.out hb
        have K4 : Aside (BoxK w4 w.heap.size k s m0 m1 m2) := K3.out.keep hb
        clear hb K3 B3 HN hx
        cases OK with
        | false =>
          go_wp2_with fail
          refine (works_calls _).mono ?_
          rintro e w2 ⟨rfl, hb⟩
          go_wp2_with fail
          go_ret
          exact ⟨rfl, Below.next B4.out hb⟩
        | true =>
          obtain ⟨_, k0, k1, k2, k3, k4⟩ := K4.out
          have hx := QR.out (by trivial) (by trivial) (by trivial) w4 (R0.out.1.keep B4.out) (R0.out.2.keep B4.out)
          go_wp2_with fail
          refine hx.mono ?_
          rintro e w5 ⟨rfl, hb⟩
          have B5 : Aside (Below w.heap.size w w5) := Below.next B4.out hb
          have K5 : Aside (BoxK w5 w.heap.size k s m0 m1 m2) := K4.out.keep hb
          clear hb K4 B4 QR hx k0 k1 k2 k3 k4
          cases RDY with
          | false =>
            go_wp2_with fail
            refine (works_calls _).mono ?_
            rintro e w2 ⟨rfl, hb⟩
            go_wp2_with fail
            go_ret
            exact ⟨rfl, Below.next B5.out hb⟩
          | true =>
            obtain ⟨_, k0, k1, k2, k3, k4⟩ := K5.out
            have hx := QI.out (by trivial) (by trivial) (by trivial) (Q3.out (by trivial)) (by trivial) w5 (R0.out.1.keep B5.out) (R0.out.2.keep B5.out)
            go_wp2_with fail
            refine hx.mono ?_
            rintro e w6 ⟨b, bcap, ra, rcap, rfl, hb1, hb2, hb3, hb4, hb5, hb⟩
            have B6 : Aside (Below w.heap.size w w6) := Below.next B5.out hb
            obtain ⟨_, k0, k1, k2, k3, k4⟩ := K5.out.keep hb
            have hx := QD.out (by trivial) (by trivial) (by trivial) (Q3.out (by trivial)) (by trivial) w6 b bcap ra rcap (R0.out.1.keep B6.out) (R0.out.2.keep B6.out) hb2 hb3 hb4 hb5
            clear hb K5 B5 QI QD hb1 hb2 hb3 hb4 hb5
            go_wp2_with fail
            refine hx.mono ?_
            rintro e w7 ⟨rfl, hb⟩
            have B7 : Aside (Below w.heap.size w w7) := Below.next B6.out hb
            clear hb hx k0 k1 k2 k3 k4 B6
            go_wp2_with fail
            refine (works_calls _).mono ?_
            rintro e w8 ⟨rfl, hb⟩
            go_wp2_with fail
            go_ret
            exact ⟨rfl, Below.next B7.out hb⟩
end Go.Proofs.YtglgmkikegbchaaGreat

/- A list of elements that came in. -/
namespace Go.Proofs.YtglgmkikegbchaaGreat
open Go.ChangeShapes Go.WideShapes Go.ChangeAt Go.RowKit Go.Deep Go.Sort

theorem open_arg {H : Type} {enc : TypeId × Value → H} {W : World} {fuel : Nat} {a : Option Addr} {len cap : Nat} {x : DataW H × List MemPlace} (h : DataW.trod enc Tryz.prog W 0 (fun _ => true) true fuel 22 [.slice a len cap] = some x) :
    ∃ d : Array It, len = d.size ∧ Arg W a cap d ∧ inR d := by
  obtain ⟨d, hd, hr, hb, _⟩ := open_items h
  have hc : d.size ≤ cap ∧ (a = none → d.size = 0 ∧ cap = 0) := by
    rcases open_slice_pairs Tryz.underlying22 Tryz.underlying49 (by kernel_rfl) rfl rfl (by kernel_rfl) (by kernel_rfl) h with ⟨hc, _⟩ | ⟨a', len', cap', m, n, V0, V1, D0, D1, P0, P1, hc, _, hl, hm, hmm, _, hall⟩
    · simp only [List.cons.injEq, and_true, Value.slice.injEq] at hc
      obtain ⟨rfl, rfl, rfl⟩ := hc
      exact ⟨by omega, fun _ => ⟨hd, rfl⟩⟩
    · simp only [List.cons.injEq, and_true, Value.slice.injEq] at hc
      obtain ⟨rfl, rfl, rfl⟩ := hc
      exact ⟨by omega, fun h => by cases h⟩
  exact ⟨d, hd.symm, ⟨hr, hc.1, hc.2⟩, fun i hi => by
    obtain ⟨h1, h2, h3, h4⟩ := hb i (by omega)
    exact ⟨WalkArith.wf_i64 ⟨h1, h2⟩, WalkArith.wf_i64 ⟨h3, h4⟩⟩⟩
end Go.Proofs.YtglgmkikegbchaaGreat

/- impl.Inner, over an Interface (printed by gen/inner.py). -/
namespace Go.Proofs.YtglgmkikegbchaaGreat
open Go.RowKit Go.Sort

set_option maxHeartbeats 2000000 in
set_option maxRecDepth 1000000 in
theorem inner_f (f : Int) (a : Option Addr) (cap : Nat) (d d' : Array It) (o : Ordr) (na : Option Addr) (n ncap : Nat) (ns nums : Array Int) (w : World) (h : Rd2 w a d) (hN : RdN w na ns) (hsz : d.size ≤ 2000) (hd : d'.size = d.size)
    (hm : ∀ W, Calls Tryz.prog 40 #[.int .i64 f] W fun e w' => e = .returned (.int .i64 n) ∧ w' = W)
    (HB : ∀ (W : World) (b cap' : Nat), b < W.heap.size → Holds2 W b 0 d → RdN W na ns → Calls Tryz.prog 44 #[.int .i64 f, .agg #[.slice (some ⟨b, 0, none⟩) d.size cap', .int .i64 o.kind, .int .i64 o.shift, .int .u64 o.m0, .int .u64 o.m1, .int .u64 o.m2], .slice na n ncap] W fun e W' => ∃ nv, e = .returned nv ∧ St2 W b 0 d' W' ∧ NumsAt W W' nv nums) :
    Calls Tryz.prog 28 #[.int .i64 1, .int .i64 f, .slice a d.size cap, vOrd o, .slice na n ncap] w (InnerTo w d' nums) := by
  have H : Aside (Rd2 w a d ∧ RdN w na ns) := ⟨h, hN⟩
  have hB : Aside (∀ (W : World) (b cap' : Nat), b < W.heap.size → Holds2 W b 0 d → RdN W na ns → Calls Tryz.prog 44 #[.int .i64 f, .agg #[.slice (some ⟨b, 0, none⟩) d.size cap', .int .i64 o.kind, .int .i64 o.shift, .int .u64 o.m0, .int .u64 o.m1, .int .u64 o.m2], .slice na n ncap] W fun e W' => ∃ nv, e = .returned nv ∧ St2 W b 0 d' W' ∧ NumsAt W W' nv nums) := HB
  have D : Aside (d'.size = d.size) := hd
  clear h hN HB hd
  obtain ⟨k, s, m0, m1, m2⟩ := o
  have hmf : ∀ (fn : Fn) (first cap : Array Value) (w : World), (Instr.makeFunc fn first cap).run Tryz.prog w = .ok (.func fn first cap) w := fun _ _ _ _ => rfl
  go_enter_defers Tryz.func28, Tryz.ntmps28
  go_wp2_with fail
  refine (hm _).mono ?_
  rintro e W0 ⟨rfl, rfl⟩
  go_wp2_with fail
  have BX : Below w.heap.size w ((((w.alloc (.cells #[.int .i64 k, .int .i64 s, .int .u64 m0, .int .u64 m1, .int .u64 m2] 26)).alloc (.cells #[.slice none 0 0] 22)).alloc (.cells #[.slice none 0 0] 29)).alloc (.cells #[.bool false] 4)) :=
    Below.next (Below.next (Below.next (below_alloc _ _) (below_alloc _ _)) (below_alloc _ _)) (below_alloc _ _)
  refine (copied_calls a cap d _ (H.out.1.keep BX) hsz).mono ?_
  rintro e w1 ⟨v, rfl, b, c2, rfl, hb1, hb2, hcap, hH, hbel⟩
  simp only [World.size_alloc] at hb1 hbel
  have hsz1 : w.heap.size + 4 ≤ w1.heap.size := by have := hbel.size; simpa using this
  obtain ⟨hb0, hb10, hb11, hb12⟩ := boxes4 hbel
  have k0 := cell_at (i := 0) hb0 rfl
  have k1 := cell_at (i := 1) hb0 rfl
  have k2 := cell_at (i := 2) hb0 rfl
  have k3 := cell_at (i := 3) hb0 rfl
  have k4 := cell_at (i := 4) hb0 rfl
  have c10 := cell_at (i := 0) hb10 rfl
  have f10 := frozen_at (i := 0) hb10
  have c11 := cell_at (i := 0) hb11 rfl
  have f11 := frozen_at (i := 0) hb11
  have c12 := cell_at (i := 0) hb12 rfl
  have f12 := frozen_at (i := 0) hb12
  clear hb0 hb10 hb11 hb12
  have B1 : Aside (Below w.heap.size w w1) := BX.trans (hbel.mono (by omega))
  obtain ⟨W, hW⟩ : ∃ W, W = w1.setCell ⟨w.heap.size + 1, 0, none⟩ (.slice (some ⟨b, 0, none⟩) d.size c2) := ⟨_, rfl⟩
  have szW : W.heap.size = w1.heap.size := by rw [hW]; simp
  have HW : Holds2 W b 0 d := by rw [hW]; exact Holds2_of_block (Below.heap_setCell _ _ _ _ (by dsimp only; omega)) hH
  have BW : Aside (Below w.heap.size w W) := by show Below _ _ _; rw [hW]; exact B1.out.setCell (by dsimp only; omega) _
  have hC := hB.out W b c2 (by omega) HW (H.out.2.keep BW.out)
  have d10 : W.cell? ⟨w.heap.size + 1, 0, none⟩ = some (.slice (some ⟨b, 0, none⟩) d.size c2) := by rw [hW]; exact World.cell?_setCell_same _ _ _ c10
  have e10 : W.frozen? ⟨w.heap.size + 1, 0, none⟩ = false := by rw [hW, World.frozen?_setCell]; exact f10
  have d11 : W.cell? ⟨w.heap.size + 1 + 1, 0, none⟩ = some (.slice none 0 0) := by rw [hW, World.cell?_of_block (Below.heap_setCell _ _ _ _ (by dsimp only; omega))]; exact c11
  have e11 : W.frozen? ⟨w.heap.size + 1 + 1, 0, none⟩ = false := by rw [hW, World.frozen?_of_block (Below.heap_setCell _ _ _ _ (by dsimp only; omega))]; exact f11
  have d12 : W.cell? ⟨w.heap.size + 1 + 1 + 1, 0, none⟩ = some (.bool false) := by rw [hW, World.cell?_of_block (Below.heap_setCell _ _ _ _ (by dsimp only; omega))]; exact c12
  have e12 : W.frozen? ⟨w.heap.size + 1 + 1 + 1, 0, none⟩ = false := by rw [hW, World.frozen?_of_block (Below.heap_setCell _ _ _ _ (by dsimp only; omega))]; exact f12
  clear HW hH hbel BX B1 H hB
  rw [hW] at hC
  go_wp2_with fail
  refine hC.mono ?_
  rintro e W2 ⟨_, rfl, S2, rn, rcap, rfl, hrn, hrb⟩
  rw [← hW] at S2 hrb
  have g2 := S2.grown
  have sz2 := g2.size
  have p10 := (kept_cell g2 (p := ⟨w.heap.size + 1, 0, none⟩) (by dsimp only; omega) (by simp; omega)).trans d10
  have r10 := (kept_frozen g2 (p := ⟨w.heap.size + 1, 0, none⟩) (by dsimp only; omega) (by simp; omega)).trans e10
  have p11 := (kept_cell g2 (p := ⟨w.heap.size + 1 + 1, 0, none⟩) (by dsimp only; omega) (by simp; omega)).trans d11
  have r11 := (kept_frozen g2 (p := ⟨w.heap.size + 1 + 1, 0, none⟩) (by dsimp only; omega) (by simp; omega)).trans e11
  have p12 := (kept_cell g2 (p := ⟨w.heap.size + 1 + 1 + 1, 0, none⟩) (by dsimp only; omega) (by simp; omega)).trans d12
  have r12 := (kept_frozen g2 (p := ⟨w.heap.size + 1 + 1 + 1, 0, none⟩) (by dsimp only; omega) (by simp; omega)).trans e12
  have B2 : Aside (Below w.heap.size w W2) := below_grownBy BW.out g2 (by omega) (by omega)
  have N2 : Aside (RdN W2 rn nums ∧ (∀ blk off, rn = some ⟨blk, off, none⟩ → 0 < nums.size → W.heap.size ≤ blk) ∧ Holds2 W2 b 0 d' ∧ b < W2.heap.size ∧ w.heap.size + 4 ≤ W.heap.size) := ⟨hrn, hrb, S2.holds, S2.lt, by omega⟩
  clear S2 hrn hrb g2 d10 e10 d11 e11 d12 e12 c10 f10 c11 f11 c12 f12 k0 k1 k2 k3 k4 hC hW BW
  go_wp2_with fail
  obtain ⟨V, hV⟩ : ∃ V, V = W2.setCell ⟨w.heap.size + 1 + 1, 0, none⟩ (.slice rn nums.size rcap) := ⟨_, rfl⟩
  rw [← hV]
  have q10 : V.cell? ⟨w.heap.size + 1, 0, none⟩ = some (.slice (some ⟨b, 0, none⟩) d.size c2) := by rw [hV, World.cell?_of_block (Below.heap_setCell _ _ _ _ (by dsimp only; omega))]; exact p10
  have s10 : V.frozen? ⟨w.heap.size + 1, 0, none⟩ = false := by rw [hV, World.frozen?_setCell]; exact r10
  have q11 : V.cell? ⟨w.heap.size + 1 + 1, 0, none⟩ = some (.slice rn nums.size rcap) := by rw [hV]; exact World.cell?_setCell_same _ _ _ p11
  have s11 : V.frozen? ⟨w.heap.size + 1 + 1, 0, none⟩ = false := by rw [hV, World.frozen?_setCell]; exact r11
  have q12 : V.cell? ⟨w.heap.size + 1 + 1 + 1, 0, none⟩ = some (.bool false) := by rw [hV, World.cell?_of_block (Below.heap_setCell _ _ _ _ (by dsimp only; omega))]; exact p12
  have s12 : V.frozen? ⟨w.heap.size + 1 + 1 + 1, 0, none⟩ = false := by rw [hV, World.frozen?_setCell]; exact r12
  have szV : V.heap.size = W2.heap.size := by rw [hV]; simp
  have BV : Aside (Below w.heap.size w V) := by show Below _ _ _; rw [hV]; exact B2.out.setCell (by dsimp only; omega) _
  have NV : Aside (RdN V rn nums ∧ (∀ blk off, rn = some ⟨blk, off, none⟩ → 0 < nums.size → w.heap.size + 4 ≤ blk) ∧ Holds2 V b 0 d' ∧ b < V.heap.size) := by
    show _ ∧ _ ∧ _ ∧ _
    obtain ⟨n1, n2, n3, n4, n5⟩ := N2.out
    refine ⟨fun h0 => ?_, fun blk off e h0 => by have := n2 blk off e h0; omega, by rw [hV]; exact Holds2_of_block (Below.heap_setCell _ _ _ _ (by dsimp only; omega)) n3, by omega⟩
    obtain ⟨blk, off, e, hl, hc⟩ := n1 h0
    have := n2 blk off e h0
    exact ⟨blk, off, e, by omega, fun i hi => by rw [hV, World.cell?_of_block (Below.heap_setCell _ _ _ _ (by dsimp only; omega))]; exact hc i hi⟩
  clear p10 r10 p11 r11 p12 r12 N2 B2 hV
  go_region
  obtain ⟨X, hX⟩ : ∃ X, X = (((V.setCell ⟨w.heap.size + 1, 0, none⟩ (.slice (some ⟨b, 0, none⟩) d.size c2)).setCell ⟨w.heap.size + 1 + 1, 0, none⟩ (.slice rn nums.size rcap)).setCell ⟨w.heap.size + 1 + 1 + 1, 0, none⟩ (.bool true)).drew := ⟨_, rfl⟩
  rw [← hX]
  have hblk : ∀ k, k ≠ w.heap.size + 1 → k ≠ w.heap.size + 1 + 1 → k ≠ w.heap.size + 1 + 1 + 1 → X.heap[k]? = V.heap[k]? := fun k h1 h2 h3 => by
    rw [hX]
    exact (Below.heap_setCell _ _ _ _ h3).trans ((Below.heap_setCell _ _ _ _ h2).trans (Below.heap_setCell _ _ _ _ h1))
  have x10 : X.cell? ⟨w.heap.size + 1, 0, none⟩ = some (.slice (some ⟨b, 0, none⟩) d.size c2) := by
    rw [hX]
    refine Eq.trans (World.cell?_of_block (Below.heap_setCell _ _ _ _ (by dsimp only; omega))) (Eq.trans (World.cell?_of_block (Below.heap_setCell _ _ _ _ (by dsimp only; omega))) (World.cell?_setCell_same _ _ _ q10))
  have x11 : X.cell? ⟨w.heap.size + 1 + 1, 0, none⟩ = some (.slice rn nums.size rcap) := by
    rw [hX]
    refine Eq.trans (World.cell?_of_block (Below.heap_setCell _ _ _ _ (by dsimp only; omega))) (World.cell?_setCell_same _ _ (.slice rn nums.size rcap) (u := .slice rn nums.size rcap) ?_)
    exact Eq.trans (World.cell?_of_block (Below.heap_setCell _ _ _ _ (by dsimp only; omega))) q11
  have x12 : X.cell? ⟨w.heap.size + 1 + 1 + 1, 0, none⟩ = some (.bool true) := by
    rw [hX]
    refine World.cell?_setCell_same _ _ _ (u := .bool false) ?_
    exact Eq.trans (World.cell?_of_block (Below.heap_setCell _ _ _ _ (by dsimp only; omega))) (Eq.trans (World.cell?_of_block (Below.heap_setCell _ _ _ _ (by dsimp only; omega))) q12)
  have szX : X.heap.size = V.heap.size := by rw [hX]; simp
  have BX : Aside (Below w.heap.size w X) := by show Below _ _ _; rw [hX]; exact (((BV.out.setCell (by dsimp only; omega) _).setCell (by dsimp only; omega) _).setCell (by dsimp only; omega) _).drew
  have NX : Aside (RdN X rn nums ∧ Holds2 X b 0 d' ∧ b < X.heap.size) := by
    show _ ∧ _ ∧ _
    obtain ⟨n1, n2, n3, n4⟩ := NV.out
    refine ⟨fun h0 => ?_, Holds2_of_block (hblk b (by omega) (by omega) (by omega)) n3, by omega⟩
    obtain ⟨blk, off, e, hl, hc⟩ := n1 h0
    have := n2 blk off e h0
    exact ⟨blk, off, e, by omega, fun i hi => (World.cell?_of_block (hblk blk (by omega) (by omega) (by omega))).trans (hc i hi)⟩
  clear q10 s10 q11 s11 q12 s12 NV BV hX hblk
  go_wp2_with fail
  refine leaves_cons (f := 39) (args := #[.pointer (some ⟨w.heap.size + 1 + 1 + 1, 0, none⟩)]) (by simp) (by simp [go_sem]) ?_
  refine (guarded_idle _ _).mono ?_
  rintro e u' w'' ⟨rfl, rfl, rfl⟩
  refine leaves_cons (f := 38) (args := #[.pointer (some ⟨w.heap.size + 1 + 1 + 1, 0, none⟩), .pointer (some ⟨w.heap.size + 1, 0, none⟩), .pointer (some ⟨w.heap.size + 1 + 1, 0, none⟩)]) (by simp [settle]) (by simp [go_sem]) ?_
  refine (inner1_idle _ _ _ _ _ x12).mono ?_
  rintro e u' w'' ⟨rfl, rfl, rfl⟩
  simp [Leaves, settle, results, Tryz.results28, go_sem, x10, x11, x12]
  obtain ⟨n1, n2, n3⟩ := NX.out
  have hd := D.out
  exact ⟨b, c2, rn, rcap, by rw [hd], by omega, n3, by rw [hd]; exact hcap, n2, n1, BX.out⟩
end Go.Proofs.YtglgmkikegbchaaGreat

/- What the laws of one inner function have in common: Ready where nothing is asked; the numbers of a function; Inner, whatever the text. -/
namespace Go.Proofs.YtglgmkikegbchaaGreat
open Go.RowKit Go.Sort

set_option maxHeartbeats 4000000 in
set_option maxRecDepth 1000000 in
theorem ready_plain (f : Int) (h1 : f ≠ 3) (h2 : f ≠ 6) (h3 : f ≠ 1) (h4 : f ≠ 5) (h5 : f ≠ 15) (a na : Option Addr) (n cap k ncap : Nat) (o : Ordr) (w : World) :
    Calls Tryz.prog 34 #[.int .i64 f, .slice a n cap, vOrd o, .slice na k ncap] w fun e w' => e = .returned (.bool true) ∧ Below w.heap.size w w' := by
  obtain ⟨k, s, m0, m1, m2⟩ := o
  have B0 : Aside (Below w.heap.size w (w.alloc (.cells #[.int .i64 k, .int .i64 s, .int .u64 m0, .int .u64 m1, .int .u64 m2] 26))) := below_alloc _ _
  go_enter Tryz.func34, Tryz.ntmps34
  go_wp2_with fail
  go_ret
  exact ⟨rfl, B0.out⟩

theorem bare_swp (ks : Array Int) (i j : Nat) (hi : i < ks.size) (hj : j < ks.size) : bare (swp ks i j) = swp (bare ks) i j := by
  unfold swp bare
  rw [Array.map_setIfInBounds, Array.map_setIfInBounds]
  have e : ∀ k, k < ks.size → (ks.map fun k => ((k, 0) : It))[k]! = (ks[k]!, 0) := fun k hk => by
    rw [getElem!_pos _ k (by simpa using hk), getElem!_pos ks k hk]; simp
  rw [e i hi, e j hj]

/-- A list without tags is one of keys alone. -/
theorem bare_of_untag (d : Array It) (h : d = (untag d.toList).toArray) : d = bare (d.map (·.1)) := by
  have e : (untag d.toList).toArray = bare (d.map (·.1)) := by
    unfold untag bare
    rw [Array.map_map]
    apply Array.ext'
    simp
  exact h.trans e

/-- Inner, whatever the text: out of the three families' contracts. -/
theorem inner_any (t f : Int) (a : Option Addr) (cap : Nat) (d d' : Array It) (o : Ordr) (na : Option Addr) (n ncap : Nat) (ns nums : Array Int) (w : World) (h : Rd2 w a d) (hN : RdN w na ns) (hsz : d.size ≤ 2000) (hd : d'.size = d.size) (ht : textB t d o = true)
    (hm : ∀ W, Calls Tryz.prog 40 #[.int .i64 f] W fun e w' => e = .returned (.int .i64 n) ∧ w' = W)
    (HC : ∀ (W : World) (b cap' : Nat), b < W.heap.size → Holds2 W b 0 d → RdN W na ns → Calls Tryz.prog 42 #[.int .i64 f, .slice (some ⟨b, 0, none⟩) d.size cap', .func (.func 43) #[vOrd o] #[], .slice na n ncap] W fun e W' => ∃ nv, e = .returned nv ∧ St2 W b 0 d' W' ∧ NumsAt W W' nv nums)
    (HF : ∀ (W : World) (b cap' : Nat), b < W.heap.size → Holds2 W b 0 d → RdN W na ns → Calls Tryz.prog 44 #[.int .i64 f, .agg #[.slice (some ⟨b, 0, none⟩) d.size cap', .int .i64 o.kind, .int .i64 o.shift, .int .u64 o.m0, .int .u64 o.m1, .int .u64 o.m2], .slice na n ncap] W fun e W' => ∃ nv, e = .returned nv ∧ St2 W b 0 d' W' ∧ NumsAt W W' nv nums)
    (HO : o.kind = 0 → ∀ ks : Array Int, d = bare ks → ∃ ks', d' = bare ks' ∧ ∀ (W : World) (b cap' : Nat), b < W.heap.size → Holds e64 W b 0 ks → RdN W na ns → Calls Tryz.prog 45 #[.int .i64 f, .slice (some ⟨b, 0, none⟩) ks.size cap', .slice na n ncap] W fun e W' => ∃ nv, e = .returned nv ∧ St1 e64 W b 0 ks' W' ∧ NumsAt W W' nv nums) :
    Calls Tryz.prog 28 #[.int .i64 t, .int .i64 f, .slice a d.size cap, vOrd o, .slice na n ncap] w (InnerTo w d' nums) := by
  unfold textB at ht
  by_cases h2 : t = 2
  · rw [if_pos h2] at ht
    simp only [Bool.and_eq_true, decide_eq_true_eq] at ht
    obtain ⟨hk, hu⟩ := ht
    have hb := bare_of_untag d hu
    obtain ⟨ks', e', H⟩ := HO hk _ hb
    generalize d.map (·.1) = ks at hb H
    subst hb
    subst e'
    subst h2
    rw [bare_size] at hsz
    rw [bare_size, bare_size] at hd
    rw [bare_size]
    exact inner_o f a cap ks ks' o hk na n ncap ns nums w h hN hsz hd hm H
  · rw [if_neg h2] at ht
    simp only [Bool.or_eq_true, decide_eq_true_eq] at ht
    rcases ht with rfl | rfl
    · exact inner_c f a cap d d' o na n ncap ns nums w h hN hsz hd hm HC
    · exact inner_f f a cap d d' o na n ncap ns nums w h hN hsz hd hm HF
end Go.Proofs.YtglgmkikegbchaaGreat
