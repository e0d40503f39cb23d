/- spec.parted (printed by gen/parted.py). -/
import Derived.Test.YtglgmkikegbchaaGreatzPartedP
import Derived.Test.YtglgmkikegbchaaGreatzPartedF
import Derived.Test.YtglgmkikegbchaaGreatzPartedT
namespace Go.Proofs.YtglgmkikegbchaaGreat
open Go.RowKit Go.Sort

theorem parted_calls (blk off b : Nat) (na ra : Option Addr) (cap cap' n ncap rcap : Nat) (d d' : Array It) (o : Ordr) (x y z P : Nat) (F : Bool) (w : World) (h : Rd2 w (some ⟨blk, off, none⟩) d) (h' : Rd2 w (some ⟨b, 0, none⟩) d') (hn : d.size = n) (hn' : d'.size = n) (hsz : n ≤ 2000) (hs0 : 0 ≤ o.shift) (hs1 : o.shift < 64) (hN : RdN w na #[(x : Int), (y : Int), (z : Int)]) (hR : RdN w ra #[(P : Int), flagN F])
    (h1 : x ≤ z) (h2 : z < y) (h3 : y ≤ n) (h4 : x ≤ P) (h5 : P < y) (HP : d'[P]! = d[z]!) (HU : ∀ i, x ≤ i → i < P → ltC (cfO o) d'[i]! d'[P]! = true) (HD : ∀ i, P < i → i < y → ltC (cfO o) d'[i]! d'[P]! = false)
    (HF : F = true ↔ ∀ i, x < i → i < y → decide (i ≤ P) = ltC (cfO o) (swp d x z)[i]! (swp d x z)[x]!) :
    Calls Tryz.prog 53 #[.slice (some ⟨blk, off, none⟩) n cap, .slice (some ⟨b, 0, none⟩) n cap', vOrd o, .slice na 3 ncap, .slice ra 2 rcap] w fun e w' => e = .returned (.bool true) ∧ Below w.heap.size w w' := by
  cases F
  · exact parted_calls_false blk off b na ra cap cap' n ncap rcap d d' o x y z P w h h' hn hn' hsz hs0 hs1 hN hR h1 h2 h3 h4 h5 HP HU HD HF
  · exact parted_calls_true blk off b na ra cap cap' n ncap rcap d d' o x y z P w h h' hn hn' hsz hs0 hs1 hN hR h1 h2 h3 h4 h5 HP HU HD HF
end Go.Proofs.YtglgmkikegbchaaGreat
