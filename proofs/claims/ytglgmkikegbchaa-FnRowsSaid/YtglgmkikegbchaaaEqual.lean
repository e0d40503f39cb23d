/- laws.equal, of two rows that are the same. -/
import Derived.Test.YtglgmkikegbchaaaOwn
import Derived.Test.YtglgmkikegbchaaProg
import Derived.BigQuiet
import Derived.Deep.QuietTactic
import Derived.Deep.LoopGhost
import Derived.Deep.CutRange
import Derived.WalkSpells
import Derived.WalkKit
namespace Go.Proofs.Ytglgmkikegbchaa
open Go.RowKit

theorem cell_drn {w : World} {a : Addr} {v : Value} (h : w.cell? a = some v) (q : Nat) : (w.drewN q).cell? a = some v := (World.cell?_drewN w q a).trans h

set_option maxHeartbeats 4000000 in
set_option maxRecDepth 1000000 in
theorem equal_calls (v1 v2 : Value) (r : List Int) (w : World) (h1 : RowI 3 w v1 r) (h2 : RowI 3 w v2 r) (hl : r.length ≤ 1000) :
    Calls Try.prog 30 #[v1, v2] w fun e w' => e = .returned (.bool true) ∧ ∃ q, w' = w.drewN q := by
  obtain ⟨a1, c1, e1⟩ := h1.form
  obtain ⟨a2, c2, e2⟩ := h2.form
  subst e1
  subst e2
  have H1 : Aside (RowI 3 w (.slice a1 r.length c1) r) := h1
  have H2 : Aside (RowI 3 w (.slice a2 r.length c2) r) := h2
  obtain ⟨n, hn⟩ : ∃ n, n = r.length := ⟨_, rfl⟩
  have HN : Aside (n = r.length ∧ n ≤ 1000) := ⟨hn, by omega⟩
  rw [← hn]
  clear hn h1 h2 hl
  go_enter Try.func30, Try.ntmps30
  go_wp2_with fail
  go_loopg [13] n (fun g vi wr => ∃ i q : Nat, vi = .int .i64 i ∧ i ≤ n ∧ n - i ≤ g ∧ wr = w.drewN q)
  case atStart => exact ⟨0, 0, rfl, by omega, by omega, rfl⟩
  case round =>
    obtain ⟨i, q, rfl, hin, hg, rfl⟩ := hrel
    by_cases hlt : i < n
    · have hltz : (i : Int) < (n : Int) := by omega
      obtain ⟨b1, o1, rfl, _, hc1⟩ := H1.out.cell (by have := HN.out; omega)
      obtain ⟨b2, o2, rfl, _, hc2⟩ := H2.out.cell (by have := HN.out; omega)
      obtain ⟨x, hx⟩ : ∃ x, r[i]? = some x := ⟨_, List.getElem?_eq_getElem (by have := HN.out; omega)⟩
      have k1 := cell_drn (hc1 i x hx)
      have k2 := cell_drn (hc2 i x hx)
      have hn4 : n ≤ 1000 := HN.out.2
      clear hc1 hc2 hx
      go_wp2_with fail
      go_quiet (fail)
      go_wp2_with fail
      go_roundg (n - (i + 1))
      case measure => omega
      case rel => exact ⟨i + 1, q + nq, by go_num, by omega, by omega, rfl⟩
    · have hltz : ¬ (i : Int) < (n : Int) := by omega
      go_wp2_with fail
      go_ret
      exact ⟨rfl, q, rfl⟩
end Go.Proofs.Ytglgmkikegbchaa
