/- What the laws of one inner function have in common: Ready where nothing is asked; the numbers of a function; Inner, whatever the text. -/
import Derived.Test.YtglgmkikegbchaaGreatzDoes
import Derived.Test.YtglgmkikegbchaaGreatzInnerF
import Derived.Test.YtglgmkikegbchaaGreatzInnerO
import Derived.Test.YtglgmkikegbchaaGreatzArg
import Derived.Test.YtglgmkikegbchaaGreatFace
namespace Go.Proofs.YtglgmkikegbchaaGreat
open Go.RowKit Go.Sort

set_option maxHeartbeats 4000000 in
set_option maxRecDepth 1000000 in
theorem ready_plain (f : Int) (h1 : f ≠ 3) (h2 : f ≠ 6) (h3 : f ≠ 1) (h4 : f ≠ 5) (h5 : f ≠ 15) (a na : Option Addr) (n cap k ncap : Nat) (o : Ordr) (w : World) :
    Calls Tryz.prog 34 #[.int .i64 f, .slice a n cap, vOrd o, .slice na k ncap] w fun e w' => e = .returned (.bool true) ∧ Below w.heap.size w w' := by
  obtain ⟨k, s, m0, m1, m2⟩ := o
  have B0 : Aside (Below w.heap.size w (w.alloc (.cells #[.int .i64 k, .int .i64 s, .int .u64 m0, .int .u64 m1, .int .u64 m2] 26))) := below_alloc _ _
  go_enter Tryz.func34, Tryz.ntmps34
  go_wp2_with fail
  go_ret
  exact ⟨rfl, B0.out⟩

theorem bare_swp (ks : Array Int) (i j : Nat) (hi : i < ks.size) (hj : j < ks.size) : bare (swp ks i j) = swp (bare ks) i j := by
  unfold swp bare
  rw [Array.map_setIfInBounds, Array.map_setIfInBounds]
  have e : ∀ k, k < ks.size → (ks.map fun k => ((k, 0) : It))[k]! = (ks[k]!, 0) := fun k hk => by
    rw [getElem!_pos _ k (by simpa using hk), getElem!_pos ks k hk]; simp
  rw [e i hi, e j hj]

/-- A list without tags is one of keys alone. -/
theorem bare_of_untag (d : Array It) (h : d = (untag d.toList).toArray) : d = bare (d.map (·.1)) := by
  have e : (untag d.toList).toArray = bare (d.map (·.1)) := by
    unfold untag bare
    rw [Array.map_map]
    apply Array.ext'
    simp
  exact h.trans e

/-- Inner, whatever the text: out of the three families' contracts. -/
theorem inner_any (t f : Int) (a : Option Addr) (cap : Nat) (d d' : Array It) (o : Ordr) (na : Option Addr) (n ncap : Nat) (ns nums : Array Int) (w : World) (h : Rd2 w a d) (hN : RdN w na ns) (hsz : d.size ≤ 2000) (hd : d'.size = d.size) (ht : textB t d o = true)
    (hm : ∀ W, Calls Tryz.prog 40 #[.int .i64 f] W fun e w' => e = .returned (.int .i64 n) ∧ w' = W)
    (HC : ∀ (W : World) (b cap' : Nat), b < W.heap.size → Holds2 W b 0 d → RdN W na ns → Calls Tryz.prog 42 #[.int .i64 f, .slice (some ⟨b, 0, none⟩) d.size cap', .func (.func 43) #[vOrd o] #[], .slice na n ncap] W fun e W' => ∃ nv, e = .returned nv ∧ St2 W b 0 d' W' ∧ NumsAt W W' nv nums)
    (HF : ∀ (W : World) (b cap' : Nat), b < W.heap.size → Holds2 W b 0 d → RdN W na ns → Calls Tryz.prog 44 #[.int .i64 f, .agg #[.slice (some ⟨b, 0, none⟩) d.size cap', .int .i64 o.kind, .int .i64 o.shift, .int .u64 o.m0, .int .u64 o.m1, .int .u64 o.m2], .slice na n ncap] W fun e W' => ∃ nv, e = .returned nv ∧ St2 W b 0 d' W' ∧ NumsAt W W' nv nums)
    (HO : o.kind = 0 → ∀ ks : Array Int, d = bare ks → ∃ ks', d' = bare ks' ∧ ∀ (W : World) (b cap' : Nat), b < W.heap.size → Holds e64 W b 0 ks → RdN W na ns → Calls Tryz.prog 45 #[.int .i64 f, .slice (some ⟨b, 0, none⟩) ks.size cap', .slice na n ncap] W fun e W' => ∃ nv, e = .returned nv ∧ St1 e64 W b 0 ks' W' ∧ NumsAt W W' nv nums) :
    Calls Tryz.prog 28 #[.int .i64 t, .int .i64 f, .slice a d.size cap, vOrd o, .slice na n ncap] w (InnerTo w d' nums) := by
  unfold textB at ht
  by_cases h2 : t = 2
  · rw [if_pos h2] at ht
    simp only [Bool.and_eq_true, decide_eq_true_eq] at ht
    obtain ⟨hk, hu⟩ := ht
    have hb := bare_of_untag d hu
    obtain ⟨ks', e', H⟩ := HO hk _ hb
    generalize d.map (·.1) = ks at hb H
    subst hb
    subst e'
    subst h2
    rw [bare_size] at hsz
    rw [bare_size, bare_size] at hd
    rw [bare_size]
    exact inner_o f a cap ks ks' o hk na n ncap ns nums w h hN hsz hd hm H
  · rw [if_neg h2] at ht
    simp only [Bool.or_eq_true, decide_eq_true_eq] at ht
    rcases ht with rfl | rfl
    · exact inner_c f a cap d d' o na n ncap ns nums w h hN hsz hd hm HC
    · exact inner_f f a cap d d' o na n ncap ns nums w h hN hsz hd hm HF
end Go.Proofs.YtglgmkikegbchaaGreat
