/- pdqsort: its contract without the bound of its recursion. -/
import Derived.Test.YtglgmkikegbchaaGreatGWcPdqsort
import Derived.Test.YtglgmkikegbchaaGreatGWfPdqsort
import Derived.Test.YtglgmkikegbchaaGreatGWoPdqsort
namespace Go.Proofs.YtglgmkikegbchaaGreat
open Go.RowKit Go.Sort

theorem pdqsort_c (O : Value) (cf : It → It → Int) (hC : CmpC O cf) (w0 : World) (blk off cap n : Nat) (d : Array It) (w : World) (S : St2 w0 blk off d w) (hn : d.size = n) (hsz : n < 4611686018427387904) (a b limit : Nat) (h1 : a ≤ b) (hb : b ≤ n) (hl : limit < 4611686018427387904) :
    Calls Tryz.prog 119 #[.slice (some ⟨blk, off, none⟩) n cap, .int .i64 a, .int .i64 b, .int .i64 limit, .func (.func 43) #[O] #[]] w fun e w' => e = .returned (.tuple #[]) ∧ St2 w0 blk off (pdq (ltC cf) d a b limit true true) w' :=
  pdqsortN_c O cf hC w0 blk off cap n hsz (b - a + 1) a b limit d w (by omega) S hn h1 hb hl

theorem pdqsort_f (T : TypeId) (rv : Value) (lt : It → It → Bool) (gl gs : Nat) (rl rs : Value) (w0 : World) (blk off n : Nat) (F : FaceOk T rv lt w0 blk off n gl gs rl rs) (d : Array It) (w : World) (S : St2 w0 blk off d w) (hn : d.size = n) (hsz : n < 4611686018427387904) (a b limit : Nat) (h1 : a ≤ b) (hb : b ≤ n) (hl : limit < 4611686018427387904) :
    Calls Tryz.prog 122 #[.iface T rv, .int .i64 a, .int .i64 b, .int .i64 limit] w fun e w' => e = .returned (.tuple #[]) ∧ St2 w0 blk off (pdq lt d a b limit true true) w' :=
  pdqsortN_f T rv lt gl gs rl rs w0 blk off n F hsz (b - a + 1) a b limit d w (by omega) S hn h1 hb hl

theorem pdqsort_o (w0 : World) (blk off cap n : Nat) (d : Array Int) (w : World) (S : St1 e64 w0 blk off d w) (hn : d.size = n) (hsz : n < 4611686018427387904) (a b limit : Nat) (h1 : a ≤ b) (hb : b ≤ n) (hl : limit < 4611686018427387904) :
    Calls Tryz.prog 157 #[.slice (some ⟨blk, off, none⟩) n cap, .int .i64 a, .int .i64 b, .int .i64 limit] w fun e w' => e = .returned (.tuple #[]) ∧ St1 e64 w0 blk off (pdq ltInt d a b limit true true) w' :=
  pdqsortN_o w0 blk off cap n hsz (b - a + 1) a b limit d w (by omega) S hn h1 hb hl

end Go.Proofs.YtglgmkikegbchaaGreat
