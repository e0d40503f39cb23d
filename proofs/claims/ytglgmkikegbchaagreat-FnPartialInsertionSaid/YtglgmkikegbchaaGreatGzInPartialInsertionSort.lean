/- Inner of partialInsertionSort, whatever the text (printed by gen/law.py). -/
import Derived.Test.YtglgmkikegbchaaGreatGBS
import Derived.Test.YtglgmkikegbchaaGreatGzByPartialInsertionSort
namespace Go.Proofs.YtglgmkikegbchaaGreat
open Go.RowKit Go.Sort

theorem inner_partialInsertionSort (t : Int) (a : Option Addr) (cap : Nat) (d : Array It) (o : Ordr) (na : Option Addr) (ncap : Nat) (X Y : Nat) (h1 : X < Y) (h2 : Y ≤ d.size) (w : World) (h : Rd2 w a d) (hN : RdN w na #[(X : Int), (Y : Int)]) (hsz : d.size ≤ 2000) (hs0 : 0 ≤ o.shift) (hs1 : o.shift < 64) (ht : textB t d o = true) :
    Calls Tryz.prog 28 #[.int .i64 t, .int .i64 6, .slice a d.size cap, vOrd o, .slice na 2 ncap] w (InnerTo w ((partialInsertionSort (ltC (cfO o)) d X Y).1) #[flagN (partialInsertionSort (ltC (cfO o)) d X Y).2]) := by
  have HO := cmpC_of o hs0 hs1
  refine inner_any t 6 a cap d _ o na 2 ncap _ _ w h hN hsz (size_partialInsertionSort (ltC (cfO o)) d X Y h1 h2) ht many_6 (fun W b c hb hH hN => by_partialInsertionSort_c o HO b c d.size ncap na d X Y rfl (by omega) h1 h2 W hb hH hN) (fun W b c hb hH hN => by_partialInsertionSort_f o HO b c d.size ncap na d X Y rfl (by omega) h1 h2 W hb hH hN) (fun ek ks eb => ?_)
  subst eb
  rw [bare_size] at hsz h2
  have hl := ltC_bare o ek
  have en := nat_partialInsertionSort (fun k => ((k, 0) : It)) rfl (ltC (cfO o)) ltInt hl ks X Y
  unfold bare
  rw [en]
  exact ⟨(partialInsertionSort ltInt ks X Y).1, rfl, fun W b c hb hH hN => by_partialInsertionSort_o b c ks.size ncap na ks X Y rfl (by omega) h1 h2 W hb hH hN⟩
end Go.Proofs.YtglgmkikegbchaaGreat
