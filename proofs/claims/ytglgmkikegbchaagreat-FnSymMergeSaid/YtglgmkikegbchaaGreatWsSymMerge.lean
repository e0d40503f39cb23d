/- symMerge: its contract without the bound of its recursion. -/
import Derived.Test.YtglgmkikegbchaaGreatWcSymMerge
import Derived.Test.YtglgmkikegbchaaGreatWfSymMerge
import Derived.Test.YtglgmkikegbchaaGreatWoSymMerge
namespace Go.Proofs.YtglgmkikegbchaaGreat
open Go.RowKit Go.Sort

theorem symMerge_c (O : Value) (cf : It → It → Int) (hC : CmpC O cf) (w0 : World) (blk off cap n : Nat) (d : Array It) (w : World) (S : St2 w0 blk off d w) (hn : d.size = n) (hsz : n < 4611686018427387904) (a m b : Nat) (h1 : a < m) (h2 : m < b) (hb : b ≤ n) :
    Calls Tryz.prog 137 #[.slice (some ⟨blk, off, none⟩) n cap, .int .i64 a, .int .i64 m, .int .i64 b, .func (.func 43) #[O] #[]] w fun e w' => e = .returned (.tuple #[]) ∧ St2 w0 blk off (symMerge (ltC cf) d a m b) w' :=
  symMergeN_c O cf hC w0 blk off cap n hsz (b - a + 1) a m b d w (by omega) S hn h1 h2 hb

theorem symMerge_f (T : TypeId) (rv : Value) (lt : It → It → Bool) (gl gs : Nat) (rl rs : Value) (w0 : World) (blk off n : Nat) (F : FaceOk T rv lt w0 blk off n gl gs rl rs) (d : Array It) (w : World) (S : St2 w0 blk off d w) (hn : d.size = n) (hsz : n < 4611686018427387904) (a m b : Nat) (h1 : a < m) (h2 : m < b) (hb : b ≤ n) :
    Calls Tryz.prog 152 #[.iface T rv, .int .i64 a, .int .i64 m, .int .i64 b] w fun e w' => e = .returned (.tuple #[]) ∧ St2 w0 blk off (symMerge lt d a m b) w' :=
  symMergeN_f T rv lt gl gs rl rs w0 blk off n F hsz (b - a + 1) a m b d w (by omega) S hn h1 h2 hb

theorem symMerge_o (w0 : World) (blk off cap n : Nat) (d : Array Int) (w : World) (S : St1 e64 w0 blk off d w) (hn : d.size = n) (hsz : n < 4611686018427387904) (a m b : Nat) (h1 : a < m) (h2 : m < b) (hb : b ≤ n) :
    Calls Tryz.prog 169 #[.slice (some ⟨blk, off, none⟩) n cap, .int .i64 a, .int .i64 m, .int .i64 b] w fun e w' => e = .returned (.tuple #[]) ∧ St1 e64 w0 blk off (symMerge ltInt d a m b) w' :=
  symMergeN_o w0 blk off cap n hsz (b - a + 1) a m b d w (by omega) S hn h1 h2 hb

end Go.Proofs.YtglgmkikegbchaaGreat
