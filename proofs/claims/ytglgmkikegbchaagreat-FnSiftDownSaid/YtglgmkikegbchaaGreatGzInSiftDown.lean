/- Inner of siftDown, whatever the text (printed by gen/law.py). -/
import Derived.Test.YtglgmkikegbchaaGreatGBS
import Derived.Test.YtglgmkikegbchaaGreatGzBySiftDown
namespace Go.Proofs.YtglgmkikegbchaaGreat
open Go.RowKit Go.Sort

theorem inner_siftDown (t : Int) (a : Option Addr) (cap : Nat) (d : Array It) (o : Ordr) (na : Option Addr) (ncap : Nat) (X Y Z : Nat) (h1 : X < Y) (h2 : Z + Y ≤ d.size) (w : World) (h : Rd2 w a d) (hN : RdN w na #[(X : Int), (Y : Int), (Z : Int)]) (hsz : d.size ≤ 2000) (hs0 : 0 ≤ o.shift) (hs1 : o.shift < 64) (ht : textB t d o = true) :
    Calls Tryz.prog 28 #[.int .i64 t, .int .i64 1, .slice a d.size cap, vOrd o, .slice na 3 ncap] w (InnerTo w (siftDown (ltC (cfO o)) Y Z X d) #[]) := by
  have HO := cmpC_of o hs0 hs1
  refine inner_any t 1 a cap d _ o na 3 ncap _ _ w h hN hsz (size_siftDown' (ltC (cfO o)) d X Y Z h1 h2) ht many_1 (fun W b c hb hH hN => by_siftDown_c o HO b c d.size ncap na d X Y Z rfl (by omega) h1 h2 W hb hH hN) (fun W b c hb hH hN => by_siftDown_f o HO b c d.size ncap na d X Y Z rfl (by omega) h1 h2 W hb hH hN) (fun ek ks eb => ?_)
  subst eb
  rw [bare_size] at hsz h2
  have hl := ltC_bare o ek
  exact ⟨siftDown ltInt Y Z X ks, nat_siftDown (fun k => ((k, 0) : It)) rfl (ltC (cfO o)) ltInt hl Y Z _ X ks (Nat.le_refl _), fun W b c hb hH hN => by_siftDown_o b c ks.size ncap na ks X Y Z rfl (by omega) h1 h2 W hb hH hN⟩
end Go.Proofs.YtglgmkikegbchaaGreat
