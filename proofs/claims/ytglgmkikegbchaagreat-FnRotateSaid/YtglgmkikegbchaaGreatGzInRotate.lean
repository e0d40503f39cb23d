/- Inner of rotate, whatever the text (printed by gen/law.py). -/
import Derived.Test.YtglgmkikegbchaaGreatGBS
import Derived.Test.YtglgmkikegbchaaGreatGzByRotate
namespace Go.Proofs.YtglgmkikegbchaaGreat
open Go.RowKit Go.Sort

theorem inner_rotate (t : Int) (a : Option Addr) (cap : Nat) (d : Array It) (o : Ordr) (na : Option Addr) (ncap : Nat) (X Y Z : Nat) (h1 : X < Y) (h2 : Y < Z) (h3 : Z ≤ d.size) (w : World) (h : Rd2 w a d) (hN : RdN w na #[(X : Int), (Y : Int), (Z : Int)]) (hsz : d.size ≤ 2000) (hs0 : 0 ≤ o.shift) (hs1 : o.shift < 64) (ht : textB t d o = true) :
    Calls Tryz.prog 28 #[.int .i64 t, .int .i64 16, .slice a d.size cap, vOrd o, .slice na 3 ncap] w (InnerTo w (rotate d X Y Z) #[]) := by
  have HO := cmpC_of o hs0 hs1
  refine inner_any t 16 a cap d _ o na 3 ncap _ _ w h hN hsz (size_rotate (ltC (cfO o)) d X Y Z h1 h2 h3) ht many_16 (fun W b c hb hH hN => by_rotate_c o HO b c d.size ncap na d X Y Z rfl (by omega) h1 h2 h3 W hb hH hN) (fun W b c hb hH hN => by_rotate_f o HO b c d.size ncap na d X Y Z rfl (by omega) h1 h2 h3 W hb hH hN) (fun ek ks eb => ?_)
  subst eb
  rw [bare_size] at hsz h3
  have hl := ltC_bare o ek
  exact ⟨rotate ks X Y Z, nat_rotate (fun k => ((k, 0) : It)) rfl ks X Y Z, fun W b c hb hH hN => by_rotate_o b c ks.size ncap na ks X Y Z rfl (by omega) h1 h2 h3 W hb hH hN⟩
end Go.Proofs.YtglgmkikegbchaaGreat
