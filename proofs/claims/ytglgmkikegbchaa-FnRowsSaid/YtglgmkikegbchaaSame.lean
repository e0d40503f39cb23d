/- spec.Same. -/
import Derived.Test.YtglgmkikegbchaaCopied
import Derived.BigQuiet
namespace Go.Proofs.Ytglgmkikegbchaa
open Go.RowKit Go.Sort

theorem same_step {d d' : Array It} {i : Nat} (_ : i < d.size) (_ : i < d'.size) (h : d[i]! ≠ d'[i]!) : decide (d = d') = false := decide_eq_false (fun e => h (by rw [e]))
theorem same_all {d d' : Array It} (hs : d.size = d'.size) (h : ∀ k, k < d.size → d[k]! = d'[k]!) : decide (d = d') = true := decide_eq_true (Array.ext hs (fun i h1 h2 => by
  have := h i h1
  rwa [getElem!_pos d i h1, getElem!_pos d' i h2] at this))

set_option maxHeartbeats 2000000 in
set_option maxRecDepth 1000000 in
theorem same_calls (a a' : Option Addr) (cap cap' : Nat) (d d' : Array It) (w : World) (h : Rd2 w a d) (h' : Rd2 w a' d') (hsz : d.size ≤ 2000) :
    Calls Try.prog 17 #[.slice a d.size cap, .slice a' d'.size cap'] w fun e w' => e = .returned (.bool (decide (d = d'))) ∧ ∃ q, w' = w.drewN q := by
  have H : Aside (Rd2 w a d) := h
  have H' : Aside (Rd2 w a' d') := h'
  clear h h'
  by_cases hs : d.size = d'.size
  case neg =>
    have hd : decide (d = d') = false := decide_eq_false (fun e => hs (by rw [e]))
    rw [hd]
    clear hd
    go_enter Try.func17, Try.ntmps17
    go_wp2
    go_ret
    exact ⟨rfl, 0, rfl⟩
  case pos =>
    have S' : Aside (d'.size = d.size) := hs.symm
    obtain ⟨n, hn⟩ : ∃ n, n = d.size := ⟨_, rfl⟩
    rw [← hs, ← hn]
    have N : Aside (n = d.size) := hn
    have hn2 : n ≤ 2000 := by omega
    obtain ⟨r, hr⟩ : ∃ r, r = decide (d = d') := ⟨_, rfl⟩
    rw [← hr]
    have R : Aside (r = decide (d = d')) := hr
    clear hs hn hr hsz
    go_enter Try.func17, Try.ntmps17
    go_wp2
    go_loopg [13] n (fun g v wr => ∃ (i q : Nat), v = .int .i64 i ∧ i ≤ n ∧ n - i ≤ g ∧ Aside (∀ k, k < i → d[k]! = d'[k]!) ∧ wr = w.drewN q)
    case atStart => exact ⟨0, 0, rfl, Nat.zero_le _, by omega, fun k hk => absurd hk (by omega), rfl⟩
    case round =>
      obtain ⟨i, q, rfl, hin, hg, HE, rfl⟩ := hrel
      by_cases hlt : i < n
      · have hltz : (i : Int) < (n : Int) := by omega
        have hN := N.out
        have hN' := S'.out
        obtain ⟨blk, off, rfl, _, hc⟩ := H.out (by omega)
        obtain ⟨blk', off', rfl, _, hc'⟩ := H'.out (by omega)
        obtain ⟨⟨x1, x2⟩, hx⟩ : ∃ x : It, x = d[i]! := ⟨_, rfl⟩
        obtain ⟨⟨y1, y2⟩, hy⟩ : ∃ y : It, y = d'[i]! := ⟨_, rfl⟩
        obtain ⟨c11, c12⟩ := hc i (by omega)
        obtain ⟨c21, c22⟩ := hc' i (by omega)
        rw [← hx] at c11 c12
        rw [← hy] at c21 c22
        dsimp only at c11 c12 c21 c22
        have q11 := fun k => (World.cell?_drewN w k ⟨blk, off + i * 2, none⟩).trans c11
        have q12 := fun k => (World.cell?_drewN w k ⟨blk, off + i * 2 + 1, none⟩).trans c12
        have q21 := fun k => (World.cell?_drewN w k ⟨blk', off' + i * 2, none⟩).trans c21
        have q22 := fun k => (World.cell?_drewN w k ⟨blk', off' + i * 2 + 1, none⟩).trans c22
        clear hc hc' c11 c12 c21 c22
        clear hN hN'
        by_cases he : (x1, x2) = (y1, y2)
        · obtain ⟨rfl, rfl⟩ := Prod.mk.inj he
          have E1 : Aside (d[i]! = d'[i]!) := hx.symm.trans hy
          clear hx hy he
          go_wp2_with fail
          go_quiet (fail)
          go_wp2_with fail
          go_roundg (n - (i + 1))
          case measure => omega
          case rel => exact ⟨i + 1, q + nq, by go_num, by omega, by omega, fun k hk => by rcases Nat.lt_or_ge k i with h | h; exact HE k h; rw [show k = i by omega]; exact E1, rfl⟩
        · have E1 : Aside (d[i]! ≠ d'[i]!) := by show _ ≠ _; rw [← hx, ← hy]; exact he
          by_cases e1 : x1 = y1
          · subst e1
            have e2 : ¬ x2 = y2 := fun e2 => he (by rw [e2])
            clear hx hy he
            go_wp2_with fail
            go_quiet (fail)
            go_wp2_with fail
            (try simp only [Exit.inBlock, Exit.then]); refine bodyPost_ret (results_tmp rfl _ _ _) rfl ?_
            exact ⟨by rw [R.out, same_step (i := i) (by have := N.out; omega) (by have := N.out; have := S'.out; omega) E1]; rfl, q + nq, by simp [World.drewN, Nat.add_assoc]⟩
          · clear hx hy he
            go_wp2_with fail
            go_quiet (fail)
            go_wp2_with fail
            (try simp only [Exit.inBlock, Exit.then]); refine bodyPost_ret (results_tmp rfl _ _ _) rfl ?_
            exact ⟨by rw [R.out, same_step (i := i) (by have := N.out; omega) (by have := N.out; have := S'.out; omega) E1]; rfl, q + nq, by simp [World.drewN, Nat.add_assoc]⟩
      · have hltz : ¬ (i : Int) < (n : Int) := by omega
        go_wp2_with fail
        go_ret
        exact ⟨by rw [R.out, same_all S'.out.symm (fun k hk => HE.out k (by have := N.out; omega))]; rfl, q, rfl⟩
end Go.Proofs.Ytglgmkikegbchaa
