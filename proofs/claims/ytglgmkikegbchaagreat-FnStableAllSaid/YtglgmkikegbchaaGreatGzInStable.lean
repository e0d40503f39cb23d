/- Inner of stable, whatever the text (printed by gen/law.py). -/
import Derived.Test.YtglgmkikegbchaaGreatGBS
import Derived.Test.YtglgmkikegbchaaGreatGzByStable
namespace Go.Proofs.YtglgmkikegbchaaGreat
open Go.RowKit Go.Sort

theorem inner_stable (t : Int) (a : Option Addr) (cap : Nat) (d : Array It) (o : Ordr) (na : Option Addr) (ncap : Nat) (X : Nat) (h1 : X ≤ d.size) (w : World) (h : Rd2 w a d) (hN : RdN w na #[(X : Int)]) (hsz : d.size ≤ 2000) (hs0 : 0 ≤ o.shift) (hs1 : o.shift < 64) (ht : textB t d o = true) :
    Calls Tryz.prog 28 #[.int .i64 t, .int .i64 14, .slice a d.size cap, vOrd o, .slice na 1 ncap] w (InnerTo w (stable (ltC (cfO o)) d X) #[]) := by
  have HO := cmpC_of o hs0 hs1
  refine inner_any t 14 a cap d _ o na 1 ncap _ _ w h hN hsz (size_stable (ltC (cfO o)) d X h1) ht many_14 (fun W b c hb hH hN => by_stable_c o HO b c d.size ncap na d X rfl (by omega) h1 W hb hH hN) (fun W b c hb hH hN => by_stable_f o HO b c d.size ncap na d X rfl (by omega) h1 W hb hH hN) (fun ek ks eb => ?_)
  subst eb
  rw [bare_size] at hsz h1
  have hl := ltC_bare o ek
  exact ⟨stable ltInt ks X, nat_stable (fun k => ((k, 0) : It)) rfl (ltC (cfO o)) ltInt hl ks X, fun W b c hb hH hN => by_stable_o b c ks.size ncap na ks X rfl (by omega) h1 W hb hH hN⟩
end Go.Proofs.YtglgmkikegbchaaGreat
