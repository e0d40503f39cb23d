/- The quiet walk through a region, behind a structure: a goal that nothing unfolds by itself (an operation that a guard leaves out is else looked through, and those behind it, at every step). -/
import Derived.Lib.QuietBelow
import Derived.Deep.QuietTactic
namespace Go.Proofs.YtglgmkikegbchaaGreat
open Go
section
variable {P : Program} {ops : Array Oper} {C : World → Prop} {Q : Act → Prop} {a : Act}
structure Qw (P : Program) (ops : Array Oper) (C : World → Prop) (Q : Act → Prop) (l : List Oper) (a : Act) : Prop where
  out : wpQuiet P ops C Q l a
theorem Qw.nil (h : Q a) : Qw P ops C Q [] a := ⟨wpQuiet_nil h⟩
theorem Qw.step {o : Oper} {rest : List Oper} (h : ∀ K : Act → Prop, (∀ a, Qw P ops C Q rest a → K a) → if Region.wanted o (yielded ops a.tmps) then o.quiet P a C K else K (a.put o.dst undef)) : Qw P ops C Q (o :: rest) a :=
  ⟨wpQuiet_step fun K hK => h K fun a ha => hK a ha.out⟩
theorem region_below {id : Nat} {Q : Exit → Act → World → Prop} {w : World} {l : List Oper} (hm : P.follows .mixedOrders = true) (hB : Region.lexB .any l.toArray = true)
    (h : Qw P l.toArray (fun w' => ∃ p : Regrown, w' = Go.Sort.grow (redrawn w p.d) p.os) (fun a' => ∀ w', (∃ p : Regrown, w' = Go.Sort.grow (redrawn w p.d) p.os) → Q .normal a' w') l a) : (Code.region id l.toArray true).wp P Q a w :=
  wp_region_quiet_below hm hB h.out
theorem region_drew {id : Nat} {Q : Exit → Act → World → Prop} {w : World} {l : List Oper} (hm : P.follows .mixedOrders = true) (hB : Region.lexB .any l.toArray = true)
    (h : Qw P l.toArray (fun w' => ∃ n, w' = w.drewN n) (fun a' => ∀ w', (∃ n, w' = w.drewN n) → Q .normal a' w') l a) : (Code.region id l.toArray true).wp P Q a w :=
  wp_region_quiet_lit hm hB h.out
end
end Go.Proofs.YtglgmkikegbchaaGreat
