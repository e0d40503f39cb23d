/- A list as an argument; Kept, whatever the list's address. -/
import Derived.Test.YtglgmkikegbchaaGreatzKept
namespace Go.Proofs.YtglgmkikegbchaaGreat
open Go.RowKit Go.Sort Go.Maps

/-- A list that came in: its elements, its capacity. -/
structure Arg (w : World) (a : Option Addr) (cap : Nat) (d : Array It) : Prop where
  rd : Rd2 w a d
  le : d.size ≤ cap
  nil : a = none → d.size = 0 ∧ cap = 0
theorem Arg.keep {w w' : World} {a : Option Addr} {cap : Nat} {d : Array It} (h : Arg w a cap d) (hb : Below w.heap.size w w') : Arg w' a cap d := ⟨h.rd.keep hb, h.le, h.nil⟩

theorem kept_calls (a : Option Addr) (cap cap' n A B b : Nat) (d d' : Array It) (w : World) (h : Arg w a cap d) (h' : Rd2 w (some ⟨b, 0, none⟩) d') (hn : d.size = n) (hc' : n ≤ cap') (hsz : n ≤ 2000) (hr : inR d) (hAB : A ≤ B) (hBn : B ≤ n) (hp : PermIn A B d d') :
    Calls Tryz.prog 29 #[.slice a n cap, .slice (some ⟨b, 0, none⟩) n cap', .int .i64 A, .int .i64 B] w fun e w' => e = .returned (.bool true) ∧ Below w.heap.size w w' := by
  by_cases h0 : n = 0
  · obtain rfl : A = 0 := by omega
    obtain rfl : B = 0 := by omega
    subst h0
    cases a with
    | none =>
      obtain ⟨_, rfl⟩ := h.nil rfl
      exact kept_none b cap' w
    | some ad => exact kept_zero ad cap b cap' w
  · obtain ⟨blk, off, rfl, _, _⟩ := h.rd (by omega)
    exact kept_some blk off b 0 cap cap' n A B d d' w h.rd h' hn (by have := h.le; omega) hc' hsz hr hAB hBn hp
end Go.Proofs.YtglgmkikegbchaaGreat
