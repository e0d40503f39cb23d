/- FnOrdered (printed by gen/ordered.py). -/
import Derived.Test.YtglgmkikegbchaaGaOrdered
import Derived.Test.YtglgmkikegbchaaWorks
import Derived.Test.YtglgmkikegbchaaJoin
namespace Go.Proofs.Ytglgmkikegbchaa
open Go.ChangeShapes Go.WideShapes Go.ChangeAt Go.RowKit Go.Deep Go.Sort

theorem most_calls (w : World) : Calls Try.prog 19 #[] w fun e w' => e = .returned (.int .i64 2000) ∧ w' = w := by
  go_enter Try.func19, Try.ntmps19
  go_wp2
  go_ret
  exact ⟨rfl, rfl⟩

theorem from_to {x : Nat} (h : x < 18446744073709551616) : fromI (toI x) = x := by
  unfold fromI toI
  rw [IntKind.wrap_i64, IntKind.wrap_u64]
  omega
theorem ordered_any (fl : Bool) (a : Option Addr) (cap n : Nat) (d : Array Nat) (w : World) (h : RdU w a d) (hn : d.size = n) (hsz : n ≤ 2000) (hr : ∀ i, i < n → d[i]! < 18446744073709551616) :
    Calls Try.prog 32 #[.bool fl, .slice a n cap] w fun e w' => ∃ O : Array Nat, O.toList.Perm d.toList ∧ (∀ i, 0 < i → i < n → bef fl O[i]! O[i - 1]! = false) ∧ OrderedTo w n O e w' := by
  have hmem : ∀ x ∈ d.toList, x < 18446744073709551616 := fun x hx => by
    obtain ⟨j, hj, e⟩ := List.mem_iff_getElem.1 hx
    have hj' : j < d.size := by simpa using hj
    have := hr j (by omega)
    rw [getElem!_pos d j hj'] at this
    rw [← e]
    simpa using this
  cases fl with
  | true =>
    refine (ordered_F a cap n d w h hn hsz).mono fun e w' ⟨D, hS, hO⟩ => ⟨D, hS.perm, fun i h0 hi => ?_, hO⟩
    show ltFl _ _ = false
    exact hS.asc (i - 1) i (Nat.zero_le _) (by omega) (by omega)
  | false =>
    refine (ordered_I a cap n d w h hn hsz).mono fun e w' ⟨D, hS, hO⟩ => ⟨D.map fromI, ?_, fun i h0 hi => ?_, hO⟩
    · have hp := hS.perm.map fromI
      rw [Array.toList_map, List.map_map] at hp
      rw [Array.toList_map]
      have e : d.toList.map (fromI ∘ toI) = d.toList := by
        refine (List.map_congr_left fun x hx => ?_).trans (List.map_id _)
        exact from_to (hmem x hx)
      rwa [e] at hp
    · have hDn : D.size = n := by rw [hS.size, Array.size_map]; exact hn
      have key : ∀ k, k < n → toI ((D.map fromI)[k]!) = D[k]! := fun k hk => by
        rw [getElem!_pos _ _ (by rw [Array.size_map]; omega), getElem!_pos D k (by omega)]
        have hm : D[k] ∈ (d.map toI).toList := hS.perm.mem_iff.1 (by simp)
        rw [Array.toList_map] at hm
        obtain ⟨x, hx, e⟩ := List.mem_map.1 hm
        rw [Array.getElem_map, ← e, from_to (hmem x hx)]
      show decide (toI _ < toI _) = false
      rw [key i hi, key (i - 1) (by omega)]
      have := hS.asc (i - 1) i (Nat.zero_le _) (by omega) (by rw [Array.size_map]; omega)
      simpa [ltInt] using this

set_option maxHeartbeats 4000000 in
set_option maxRecDepth 1000000 in
theorem fnOrdered_walk (fl : Bool) (a : Option Addr) (cap n : Nat) (d : Array Nat) (w : World) (h : RdU w a d) (hn : d.size = n) (hr : ∀ i, i < n → d[i]! < 18446744073709551616) :
    Calls Try.prog 10 #[.bool fl, .slice a n cap] w fun e w' => e = .returned (.bool true) ∧ Below w.heap.size w w' := by
  have HR : Aside (RdU w a d ∧ d.size = n ∧ ∀ i, i < n → d[i]! < 18446744073709551616) := ⟨h, hn, hr⟩
  have B0 : Aside (Below w.heap.size w w) := Below.refl _ _
  clear h hn hr
  by_cases h1 : 2147483647 < n
  · have h1z : (2147483647 : Int) < (n : Int) := by omega
    go_enter Try.func10, Try.ntmps10
    go_wp2_with fail
    go_ret
    exact ⟨rfl, B0.out⟩
  · have h1z : ¬ (2147483647 : Int) < (n : Int) := by omega
    by_cases h2 : 2000 < n
    · have h2z : (2000 : Int) < (n : Int) := by omega
      go_enter Try.func10, Try.ntmps10
      go_wp2_with fail
      refine (most_calls _).mono ?_
      rintro e wz ⟨rfl, hwz⟩
      subst wz
      go_wp2_with fail
      refine (works_calls _).mono ?_
      rintro e w9 ⟨rfl, hb⟩
      have B9 := Below.next B0.out hb
      clear hb
      go_wp2_with fail
      go_ret
      exact ⟨rfl, B9⟩
    · have h2z : ¬ (2000 : Int) < (n : Int) := by omega
      have hO := ordered_any fl a cap n d w HR.out.1 HR.out.2.1 (by omega) HR.out.2.2
      go_enter Try.func10, Try.ntmps10
      go_wp2_with fail
      refine (most_calls _).mono ?_
      rintro e wz ⟨rfl, hwz⟩
      subst wz
      go_wp2_with fail
      refine hO.mono ?_
      rintro e w1 ⟨O, hp, hs, b, c2, rfl, hRd, hb⟩
      have B1 : Aside (Below w.heap.size w w1) := hb
      have hI := inOrder_calls fl a (some ⟨b, 0, none⟩) cap c2 n d O w1 (HR.out.1.keep hb) hRd HR.out.2.1 (by omega) HR.out.2.2 hp hs
      clear hO hp hs hRd hb
      go_wp2_with fail
      refine hI.mono ?_
      rintro e w2 ⟨rfl, hb⟩
      have B2 : Aside (Below w.heap.size w w2) := Below.next B1.out hb
      clear hI hb
      go_wp2_with fail
      refine (works_calls _).mono ?_
      rintro e w9 ⟨rfl, hb⟩
      have B9 := Below.next B2.out hb
      clear hb
      go_wp2_with fail
      go_ret
      exact ⟨rfl, B9⟩

theorem open_words {H : Type} {enc : TypeId × Value → H} {W : World} {fuel : Nat} {a : Option Addr} {len cap : Nat} {x : DataW H × List MemPlace} (h : DataW.trod enc Try.prog W 0 (fun _ => true) true fuel 46 [.slice a len cap] = some x) :
    ∃ d : Array Nat, d.size = len ∧ RdU W a d ∧ ∀ i, i < len → d[i]! < 18446744073709551616 := by
  rcases open_slice1 Try.underlying46 (by kernel_rfl) h with ⟨hc, _⟩ | ⟨a', len', cap', m, n, V, D, Pl, hc, _, hl, hm, hmm, _, hall⟩
  · simp only [List.cons.injEq, and_true, Value.slice.injEq] at hc
    obtain ⟨rfl, rfl, rfl⟩ := hc
    exact ⟨#[], rfl, fun h => absurd h (by simp), fun i hi => absurd hi (by omega)⟩
  · simp only [List.cons.injEq, and_true, Value.slice.injEq] at hc
    obtain ⟨rfl, rfl, rfl⟩ := hc
    simp only [if_true] at hmm
    subst hmm
    have hb : ∀ i, i < m → ∃ x : Nat, V i = .int .u64 (x : Int) ∧ x < 18446744073709551616 := fun i hi => by
      obtain ⟨x, h1, _, h3⟩ := DataW.trod_int Try.underlying23 (hall i hi).2
      simp only [List.cons.injEq, and_true] at h1
      have h4 : 0 ≤ x ∧ x ≤ 18446744073709551615 := by simpa [Lit.wf, IntKind.min, IntKind.max, IntKind.signed, IntKind.bits] using h3
      exact ⟨x.toNat, by rw [Int.toNat_of_nonneg h4.1]; exact h1, by omega⟩
    let X : Nat → Nat := fun i => if h : i < m then (hb i h).choose else 0
    have hX : ∀ i, i < len → V i = .int .u64 (X i : Int) ∧ X i < 18446744073709551616 := fun i hi => by
      have hi' : i < m := by omega
      simp only [X, dif_pos hi']
      exact (hb i hi').choose_spec
    let d : Array Nat := ((List.range len).map X).toArray
    have hd : ∀ i, i < len → d[i]! = X i := fun i hi => by
      have : d[i]? = some (X i) := by simp [d, hi]
      rw [getElem!_def, this]
    refine ⟨d, by simp [d], fun h0 => ?_, fun i hi => by rw [hd i hi]; exact (hX i hi).2⟩
    have h0' : 0 < len := by simpa [d] using h0
    obtain ⟨b, off, spot⟩ := a'
    have hspot : spot = none := by simpa [Addr.add] using World.cell?_spot (hall 0 (by omega)).1
    subst hspot
    refine ⟨b, off, rfl, World.block_lt_of_cell? _ _ (hall 0 (by omega)).1, fun i hi => ?_⟩
    have hi' : i < len := by simpa [d] using hi
    rw [hd i hi', ← (hX i hi').1, ← Go.WideShapes.add_plain]
    exact (hall i (by omega)).1

set_option maxRecDepth 100000 in
theorem fnOrdered_lifted (os : Os) (started : os.Started) (H : Type) (enc : TypeId × Value → H) :
    ReturnsInHanded {} Try.checked os 10 .any (Rows.fnOrderedSpec.pre6 enc Try.prog Try.f10 Rows.fnOrderedRow.domain false) (Rows.fnOrderedSpec.post enc Try.prog Try.f10 false true false false) := by
  refine returnsInHanded_of_change (C := Try.checked) own started (by kernel_rfl) Try.func10
    (ChangeSpec.witness6 (enc := enc) (C := Try.checked) false ⟨#[], #[.bool false, .slice none 0 0], []⟩ 8 (by kernel_rfl) (by kernel_rfl) (by kernel_rfl) (by kernel_rfl)) ?_
  intro W base args ds gs before hval0 hW _ _
  have hval : ∀ (j : Nat) t v, Try.f10.params[j]? = some t → args[j]? = some v → Value.okWide Try.prog W .any base t v := hval0
  have hW' := hW
  obtain ⟨p, q, hA0, hV, rfl, _, _⟩ := hW
  have hA : DataW.TrodAll enc Try.prog W 0 (fun _ => true) true Try.f10.params.toList args.toList ds p := hA0
  rw [Try.params10] at hA hval
  obtain ⟨v0, vs0, d0, ds0, p0, q0, hargs, rfl, rfl, h0, r0⟩ := trodAll_cons hA
  obtain ⟨v1, vs1, d1, ds1, p1, q1, rfl, rfl, rfl, h1, r1⟩ := trodAll_cons r0
  obtain ⟨rfl, rfl, rfl⟩ := trodAll_nil r1
  obtain rfl : args = #[v0, v1] := by cases args; simp_all
  obtain ⟨bi, rfl⟩ := okWide_bool Try.underlying4 (hval 0 4 v0 rfl rfl)
  obtain ⟨a, len, cap, rfl⟩ := okWide_slice Try.underlying46 (hval 1 46 v1 rfl rfl)
  obtain ⟨fuel, hf⟩ := h1
  obtain ⟨d, hd, hArg, hIn⟩ := open_words hf
  refine (fnOrdered_walk bi a cap len d W hArg hd hIn).mono fun e W' ⟨he, hB⟩ => ?_
  subst he
  exact ⟨_, rfl, post_true hW' rfl (by rw [Try.params10]; decide) rfl rfl hB⟩

theorem fnOrdered_over : Rows.fnOrderedRow.holds Try.pinned (OpenSpec.ofChange Rows.fnOrderedSpec) :=
  OpenClaim.holds_of_wide 10 Try.f10 rfl rfl rfl rfl rfl rfl rfl ⟨rfl, rfl, rfl, rfl, rfl⟩ rfl rfl rfl rfl rfl (by kernel_rfl) Try.func10 (by kernel_rfl)
    (of_decide_eq_true (by kernel_rfl)) (by unfold Func.isWrapper; first | (rw [if_pos (by decide +kernel)]; kernel_rfl) | (rw [if_neg (by decide +kernel)]; exact ⟨rfl, rfl⟩))
    (fun os started H enc _ => fnOrdered_lifted os started H enc)

theorem fnOrdered_proved : Rows.FnOrderedSaid := fnOrdered_over
end Go.Proofs.Ytglgmkikegbchaa
