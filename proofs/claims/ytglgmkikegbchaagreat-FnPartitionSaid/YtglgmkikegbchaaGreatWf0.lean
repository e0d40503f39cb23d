/- What is asked of an Interface value. -/
import Derived.Test.YtglgmkikegbchaaGreatProg
import Derived.Test.YtglgmkikegbchaaGreatKa
namespace Go.Proofs.YtglgmkikegbchaaGreat
open Go.RowKit Go.Sort

/-- The Interface value is over the row of n elements: its Less compares by lt, its Swap exchanges. -/
structure FaceOk (T : TypeId) (rv : Value) (lt : It → It → Bool) (w0 : World) (blk off n : Nat) (gl gs : Nat) (rl rs : Value) : Prop where
  eL : ∀ args w, (callFunc gl args).run Tryz.prog w = .ok (.enter gl args) w
  eS : ∀ args w, (callFunc gs args).run Tryz.prog w = .ok (.enter gs args) w
  methL : ∀ d W, St2 w0 blk off d W → Sem.run Tryz.prog (method 256 T rv "Less") W = .ok (gl, rl) W
  methS : ∀ d W, St2 w0 blk off d W → Sem.run Tryz.prog (method 256 T rv "Swap") W = .ok (gs, rs) W
  less : ∀ d W (i j : Nat), d.size = n → St2 w0 blk off d W → i < n → j < n →
    Calls Tryz.prog gl #[rl, .int .i64 i, .int .i64 j] W fun e w' => e = .returned (.bool (lt d[i]! d[j]!)) ∧ ∃ q os, w' = grow (W.drewN q) os
  swap : ∀ d W (i j : Nat), d.size = n → St2 w0 blk off d W → i < n → j < n →
    Calls Tryz.prog gs #[rs, .int .i64 i, .int .i64 j] W fun e w' => e = .returned (.tuple #[]) ∧ St2 w0 blk off (swp d i j) w' ∧ W.grownBy w' (some blk)
end Go.Proofs.YtglgmkikegbchaaGreat
