/- Inner of order2, whatever the text (printed by gen/law.py). -/
import Derived.Test.YtglgmkikegbchaaGreatzLaw
import Derived.Test.YtglgmkikegbchaaGreatzMany
import Derived.Test.YtglgmkikegbchaaGreatNat
import Derived.Test.YtglgmkikegbchaaGreatzPerm
import Derived.Test.YtglgmkikegbchaaGreatzByOrder2
namespace Go.Proofs.YtglgmkikegbchaaGreat
open Go.RowKit Go.Sort

theorem inner_order2 (t : Int) (a : Option Addr) (cap : Nat) (d : Array It) (o : Ordr) (na : Option Addr) (ncap : Nat) (X Y : Nat) (h1 : X < d.size) (h2 : Y < d.size) (w : World) (h : Rd2 w a d) (hN : RdN w na #[(X : Int), (Y : Int)]) (hsz : d.size ≤ 2000) (hs0 : 0 ≤ o.shift) (hs1 : o.shift < 64) (ht : textB t d o = true) :
    Calls Tryz.prog 28 #[.int .i64 t, .int .i64 9, .slice a d.size cap, vOrd o, .slice na 2 ncap] w (InnerTo w (d) #[((order2 (ltC (cfO o)) d X Y 0).1 : Int), ((order2 (ltC (cfO o)) d X Y 0).2.1 : Int), ((order2 (ltC (cfO o)) d X Y 0).2.2 : Int)]) := by
  have HO := cmpC_of o hs0 hs1
  refine inner_any t 9 a cap d _ o na 2 ncap _ _ w h hN hsz (rfl) ht many_9 (fun W b c hb hH hN => by_order2_c o HO b c d.size ncap na d X Y rfl (by omega) h1 h2 W hb hH hN) (fun W b c hb hH hN => by_order2_f o HO b c d.size ncap na d X Y rfl (by omega) h1 h2 W hb hH hN) (fun ek ks eb => ?_)
  subst eb
  rw [bare_size] at hsz h1 h2
  have hl := ltC_bare o ek
  have en := nat_order2 (fun k => ((k, 0) : It)) rfl (ltC (cfO o)) ltInt hl ks X Y 0
  unfold bare
  rw [en]
  exact ⟨ks, rfl, fun W b c hb hH hN => by_order2_o b c ks.size ncap na ks X Y rfl (by omega) h1 h2 W hb hH hN⟩
end Go.Proofs.YtglgmkikegbchaaGreat
