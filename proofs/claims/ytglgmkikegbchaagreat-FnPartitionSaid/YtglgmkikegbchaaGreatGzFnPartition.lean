/- FnPartition: a partition puts what stands ahead of the pivot ahead of it and all else behind, and tells whether all stood so: laws.FnPartition answers true at every input and leaves it as it was. No conditions. -/
import Derived.Test.YtglgmkikegbchaaGreatGLG
namespace Go.Proofs.YtglgmkikegbchaaGreat
open Go.ChangeShapes Go.WideShapes Go.ChangeAt Go.RowKit Go.Deep Go.Sort

set_option maxHeartbeats 4000000 in
set_option maxRecDepth 1000000 in
theorem fnPartition_walk (t : Int) (a : Option Addr) (cap : Nat) (d : Array It) (o : Ordr) (x y z : Int) (w : World) (h : Arg w a cap d) (hr : inR d) :
    Calls Tryz.prog 15 #[.int .i64 t, .slice a d.size cap, vOrd o, .int .i64 x, .int .i64 y, .int .i64 z] w fun e w' => e = .returned (.bool true) ∧ Below w.heap.size w w' := by
  obtain ⟨n, hn⟩ : ∃ n, n = d.size := ⟨_, rfl⟩
  rw [← hn]
  obtain ⟨k, s, m0, m1, m2⟩ := o
  by_cases h1 : 2147483647 < n
  · have h1z : (2147483647 : Int) < (n : Int) := by omega
    have B0 : Aside (Below w.heap.size w (w.alloc (.cells #[.int .i64 k, .int .i64 s, .int .u64 m0, .int .u64 m1, .int .u64 m2] 26))) := below_alloc _ _
    clear hn
    go_enter Tryz.func15, Tryz.ntmps15
    go_wp2_with fail
    go_ret
    exact ⟨rfl, B0.out⟩
  · have h1z : ¬ (2147483647 : Int) < (n : Int) := by omega
    obtain ⟨U, hU⟩ : ∃ U, U = (w.alloc (.cells #[.int .i64 k, .int .i64 s, .int .u64 m0, .int .u64 m1, .int .u64 m2] 26)).alloc (.cells #[.int .i64 x, .int .i64 y, .int .i64 z] 3) := ⟨_, rfl⟩
    have BU : Below w.heap.size w U := by rw [hU]; exact Below.next (below_alloc _ _) (below_alloc _ _)
    have hnum : U.heap[w.heap.size + 1]? = some (.cells #[.int .i64 x, .int .i64 y, .int .i64 z] 3 (0, 0)) := by rw [hU]; have := heap_alloc_new (w.alloc (.cells #[.int .i64 k, .int .i64 s, .int .u64 m0, .int .u64 m1, .int .u64 m2] 26)) (.cells #[.int .i64 x, .int .i64 y, .int .i64 z] 3); simpa using this
    have hN : RdN U (some ⟨w.heap.size + 1, 0, none⟩) #[x, y, z] := fun _ => ⟨_, 0, rfl, by rw [hU]; simp, fun i hi => by
      have h3 : i < 3 := hi
      rcases (show i = 0 ∨ i = 1 ∨ i = 2 by omega) with rfl | rfl | rfl
      · exact cell_at hnum rfl
      · exact cell_at hnum rfl
      · exact cell_at hnum rfl⟩
    obtain ⟨OK, hOK, HNum⟩ := numok_4 d.size x y z
    have hsz : fitsB d.size ⟨k, s, m0, m1, m2⟩ = true → d.size ≤ 2000 ∧ 0 ≤ s ∧ s < 64 := fun e => by
      unfold fitsB at e
      simp only [Bool.and_eq_true, decide_eq_true_eq] at e
      exact ⟨e.1.1.1.1, e.1.2, e.2⟩
    have D := does_calls t 4 a (some ⟨w.heap.size + 1, 0, none⟩) cap 3 3 d ((partition (ltC (cfO (⟨k, s, m0, m1, m2⟩ : Ordr))) d x.toNat y.toNat z.toNat).2.2) ⟨k, s, m0, m1, m2⟩ #[x, y, z] #[((partition (ltC (cfO (⟨k, s, m0, m1, m2⟩ : Ordr))) d x.toNat y.toNat z.toNat).1 : Int), flagN (partition (ltC (cfO (⟨k, s, m0, m1, m2⟩ : Ordr))) d x.toNat y.toNat z.toNat).2.1] OK (true) U (h.rd.keep BU) hN (fun W hW => (HNum _ _ W hW).mono fun e w' ⟨u, v, h1, _, h2⟩ => ⟨u, v, h1, h2⟩)
      (fun _ _ _ W _ _ => ready_plain 4 (by decide) (by decide) (by decide) (by decide) (by decide) _ _ _ _ _ _ _ W)
      (fun e1 _ e2 _ e3 W hA hB => by
        obtain ⟨X, Y, Z, rfl, rfl, rfl, b0, b1, b2, g⟩ := hOK e1
        obtain ⟨z1, z2, z3⟩ := hsz e2
        simp only [Int.toNat_natCast]
        exact inner_partition t a cap d _ _ 3 X Y Z (by omega) (by omega) (by omega) (by omega) W hA hB z1 z2 z3 e3)
      (fun e1 er e2 e4 _ W b bcap ra rcap hA hB hb hbc hH hR => by
        obtain ⟨X, Y, Z, rfl, rfl, rfl, b0, b1, b2, g⟩ := hOK e1
        obtain ⟨z1, z2, z3⟩ := hsz e2
        simp only [Int.toNat_natCast] at hH hbc hR er ⊢
        have hs2 : ((partition (ltC (cfO (⟨k, s, m0, m1, m2⟩ : Ordr))) d X Y Z).2.2).size = d.size := size_partition (ltC (cfO (⟨k, s, m0, m1, m2⟩ : Ordr))) d X Y Z (by omega) (by omega) (by omega) (by omega)
        rw [hs2] at hbc ⊢
        exact done_partition a _ ra cap d.size 3 b bcap rcap d ⟨k, s, m0, m1, m2⟩ X Y Z W ⟨hA, h.le, h.nil⟩ rfl z1 z2 z3 e4 hr hB hb hH hbc hR (by omega) (by omega) (by omega) (by omega))
    rw [← hn] at D
    have BA : Aside (Below w.heap.size w U) := BU
    have hU' := hU
    clear hsz hN hnum BU HNum hOK hU hn
    go_enter Tryz.func15, Tryz.ntmps15
    rw [hU'] at D
    go_wp2_with fail
    refine D.mono ?_
    rintro e w2 ⟨rfl, hb⟩
    rw [← hU'] at hb
    clear hU' D
    go_wp2_with fail
    go_ret
    exact ⟨rfl, Below.next BA.out hb⟩

set_option maxRecDepth 100000 in
theorem fnPartition_lifted (os : Os) (started : os.Started) (H : Type) (enc : TypeId × Value → H) :
    ReturnsInHanded {} Tryz.checked os 15 .any (Rows.fnPartitionSpec.pre6 enc Tryz.prog Tryz.f15 Rows.fnPartitionRow.domain false) (Rows.fnPartitionSpec.post enc Tryz.prog Tryz.f15 false true false false) := by
  refine returnsInHanded_of_change (C := Tryz.checked) own started (by kernel_rfl) Tryz.func15
    (ChangeSpec.witness6 (enc := enc) (C := Tryz.checked) false ⟨#[], #[.int .i64 0, .slice none 0 0, .agg #[.int .i64 0, .int .i64 0, .int .u64 0, .int .u64 0, .int .u64 0], .int .i64 0, .int .i64 0, .int .i64 0], []⟩ 8 (by kernel_rfl) (by kernel_rfl) (by kernel_rfl) (by kernel_rfl)) ?_
  intro W base args ds gs before hval0 hW _ _
  have hval : ∀ (j : Nat) t v, Tryz.f15.params[j]? = some t → args[j]? = some v → Value.okWide Tryz.prog W .any base t v := hval0
  have hW' := hW
  obtain ⟨p, q, hA0, hV, rfl, _, _⟩ := hW
  have hA : DataW.TrodAll enc Tryz.prog W 0 (fun _ => true) true Tryz.f15.params.toList args.toList ds p := hA0
  rw [Tryz.params15] at hA hval
  obtain ⟨v0, vs0, d0, ds0, p0, q0, hargs, rfl, rfl, h0, r0⟩ := trodAll_cons hA
  obtain ⟨v1, vs1, d1, ds1, p1, q1, rfl, rfl, rfl, h1, r1⟩ := trodAll_cons r0
  obtain ⟨v2, vs2, d2, ds2, p2, q2, rfl, rfl, rfl, h2, r2⟩ := trodAll_cons r1
  obtain ⟨v3, vs3, d3, ds3, p3, q3, rfl, rfl, rfl, h3, r3⟩ := trodAll_cons r2
  obtain ⟨v4, vs4, d4, ds4, p4, q4, rfl, rfl, rfl, h4, r4⟩ := trodAll_cons r3
  obtain ⟨v5, vs5, d5, ds5, p5, q5, rfl, rfl, rfl, h5, r5⟩ := trodAll_cons r4
  obtain ⟨rfl, rfl, rfl⟩ := trodAll_nil r5
  obtain rfl : args = #[v0, v1, v2, v3, v4, v5] := by cases args; simp_all
  obtain ⟨t, rfl, _, _⟩ := open_i64 Tryz.underlying3 (hval 0 3 v0 rfl rfl)
  obtain ⟨a, len, cap, rfl⟩ := okWide_slice Tryz.underlying22 (hval 1 22 v1 rfl rfl)
  obtain ⟨o, rfl, _⟩ := open_order (hval 2 26 v2 rfl rfl)
  obtain ⟨x, rfl, _, _⟩ := open_i64 Tryz.underlying3 (hval 3 3 v3 rfl rfl)
  obtain ⟨y, rfl, _, _⟩ := open_i64 Tryz.underlying3 (hval 4 3 v4 rfl rfl)
  obtain ⟨z, rfl, _, _⟩ := open_i64 Tryz.underlying3 (hval 5 3 v5 rfl rfl)
  obtain ⟨fuel, hf⟩ := h1
  obtain ⟨d, rfl, hArg, hIn⟩ := open_arg hf
  refine (fnPartition_walk t a cap d o x y z W hArg hIn).mono fun e W' ⟨he, hB⟩ => ?_
  subst he
  exact ⟨_, rfl, post_true hW' rfl (by rw [Tryz.params15]; decide) rfl rfl hB⟩

theorem fnPartition_over : Rows.fnPartitionRow.holds Tryz.pinned (OpenSpec.ofChange Rows.fnPartitionSpec) :=
  OpenClaim.holds_of_wide 15 Tryz.f15 rfl rfl rfl rfl rfl rfl rfl ⟨rfl, rfl, rfl, rfl, rfl⟩ rfl rfl rfl rfl rfl (by kernel_rfl) Tryz.func15 (by kernel_rfl)
    (of_decide_eq_true (by kernel_rfl)) (by unfold Func.isWrapper; first | (rw [if_pos (by decide +kernel)]; kernel_rfl) | (rw [if_neg (by decide +kernel)]; exact ⟨rfl, rfl⟩))
    (fun os started H enc _ => fnPartition_lifted os started H enc)

theorem fnPartition_proved : Rows.FnPartitionSaid := fnPartition_over
end Go.Proofs.YtglgmkikegbchaaGreat
