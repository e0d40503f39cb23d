/- A list of elements that came in. -/
import Derived.Test.YtglgmkikegbchaaGreatzArg
import Derived.Test.YtglgmkikegbchaaGreatJoin
namespace Go.Proofs.YtglgmkikegbchaaGreat
open Go.ChangeShapes Go.WideShapes Go.ChangeAt Go.RowKit Go.Deep Go.Sort

theorem open_arg {H : Type} {enc : TypeId × Value → H} {W : World} {fuel : Nat} {a : Option Addr} {len cap : Nat} {x : DataW H × List MemPlace} (h : DataW.trod enc Tryz.prog W 0 (fun _ => true) true fuel 22 [.slice a len cap] = some x) :
    ∃ d : Array It, len = d.size ∧ Arg W a cap d ∧ inR d := by
  obtain ⟨d, hd, hr, hb, _⟩ := open_items h
  have hc : d.size ≤ cap ∧ (a = none → d.size = 0 ∧ cap = 0) := by
    rcases open_slice_pairs Tryz.underlying22 Tryz.underlying49 (by kernel_rfl) rfl rfl (by kernel_rfl) (by kernel_rfl) h with ⟨hc, _⟩ | ⟨a', len', cap', m, n, V0, V1, D0, D1, P0, P1, hc, _, hl, hm, hmm, _, hall⟩
    · simp only [List.cons.injEq, and_true, Value.slice.injEq] at hc
      obtain ⟨rfl, rfl, rfl⟩ := hc
      exact ⟨by omega, fun _ => ⟨hd, rfl⟩⟩
    · simp only [List.cons.injEq, and_true, Value.slice.injEq] at hc
      obtain ⟨rfl, rfl, rfl⟩ := hc
      exact ⟨by omega, fun h => by cases h⟩
  exact ⟨d, hd.symm, ⟨hr, hc.1, hc.2⟩, fun i hi => by
    obtain ⟨h1, h2, h3, h4⟩ := hb i (by omega)
    exact ⟨WalkArith.wf_i64 ⟨h1, h2⟩, WalkArith.wf_i64 ⟨h3, h4⟩⟩⟩
end Go.Proofs.YtglgmkikegbchaaGreat
