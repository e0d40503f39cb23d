/- slices.Sort over numbers; impl.Ordered (printed by gen/ordered.py). -/
import Derived.Test.YtglgmkikegbchaaWxPdqsort
import Derived.Test.YtglgmkikegbchaaWoPdqsort
import Derived.Test.YtglgmkikegbchaaGNB
import Derived.Test.YtglgmkikegbchaaLen
import Derived.Test.YtglgmkikegbchaaPh
import Derived.Sort.AssemblyPlain
import Derived.Deep.AppendLies
namespace Go.Proofs.Ytglgmkikegbchaa
open Go.RowKit Go.Sort

/-- What a sort leaves. -/
structure SortsG {α : Type} [Inhabited α] (lt : α → α → Bool) (d D : Array α) : Prop where
  size : D.size = d.size
  perm : D.toList.Perm d.toList
  asc : SortedIn lt 0 d.size D
theorem sortsG_pdq {α : Type} [Inhabited α] (lt : α → α → Bool) (S : SWO lt) (d : Array α) (n L : Nat) (hn : d.size = n) : SortsG lt d (pdq lt d 0 n L true true) := by
  subst hn
  have hp := pdq_any lt d 0 d.size L true true (Nat.zero_le _) (Nat.le_refl _)
  refine ⟨hp.1, ?_, (pdq_sorts lt S d 0 d.size L true true (Nat.zero_le _) (Nat.le_refl _) (Or.inl rfl)).2⟩
  have h2 := hp.2.2
  generalize pdq lt d 0 d.size L true true = D at hp h2
  have e : D.extract 0 d.size = D := by rw [← hp.1]; simp
  rwa [e, show d.extract 0 d.size = d by simp] at h2
theorem bitLenAux_le' : ∀ f x, Lib.bitLenAux f x ≤ f
  | 0, _ => Nat.le_refl _
  | f + 1, x => by
    have := bitLenAux_le' f (x / 2)
    unfold Lib.bitLenAux
    split <;> omega
theorem bitLen_lt' (n : Nat) : Lib.bitLen n < 4611686018427387904 := by
  have := bitLenAux_le' 64 n
  unfold Lib.bitLen
  omega
theorem wrap_u64_nonneg' (p : Int) : 0 ≤ IntKind.u64.wrap p := by rw [IntKind.wrap_u64]; omega
/-- A number with a sign as a word. -/
def fromI (y : Int) : Nat := (IntKind.u64.wrap y).toNat
/-- What Ordered tells. -/
def OrderedTo (w : World) (n : Nat) (O : Array Nat) (e : Ending) (w' : World) : Prop := ∃ b cap', e = .returned (.slice (some ⟨b, 0, none⟩) n cap') ∧ RdU w' (some ⟨b, 0, none⟩) O ∧ Below w.heap.size w w'

set_option maxHeartbeats 2000000 in
set_option maxRecDepth 1000000 in
theorem sort_x (w0 : World) (blk off cap n : Nat) (d : Array Nat) (w : World) (S : St1 eFl w0 blk off d w) (hn : d.size = n) (hsz : n < 4611686018427387904) :
    Calls Try.prog 74 #[.slice (some ⟨blk, off, none⟩) n cap] w fun e w' => e = .returned (.tuple #[]) ∧ ∃ D, SortsG ltFl d D ∧ St1 eFl w0 blk off D w' := by
  have hL := bitLen_lt' n
  have hc := pdqsortN_x w0 blk off cap n hsz (n - 0 + 1) 0 n (Lib.bitLen n) d w (by omega) S hn (Nat.zero_le _) (Nat.le_refl _) hL
  have hs : Aside (SortsG ltFl d (pdq ltFl d 0 n (Lib.bitLen n) true true)) := sortsG_pdq _ swo_ltFl d n _ hn
  have hl := bits_Len (n : Int) w (by omega) (by omega)
  rw [Int.toNat_natCast] at hl
  have hw : IntKind.u64.wrap (n : Int) = (n : Int) := by rw [IntKind.wrap_u64]; omega
  generalize Lib.bitLen n = L at hL hc hs hl
  generalize pdq ltFl d 0 n L true true = D at hc hs
  clear S
  go_enter Try.func74, Try.ntmps74
  go_wp2_with fail
  refine hl.mono ?_
  rintro e wz ⟨rfl, hwz⟩
  subst wz
  go_wp2_with fail
  refine hc.mono ?_
  rintro e w' ⟨rfl, h⟩
  go_wp2_with fail
  go_end0
  exact ⟨rfl, D, hs.out, h⟩

set_option maxHeartbeats 4000000 in
set_option maxRecDepth 1000000 in
theorem ordered_F (a : Option Addr) (cap n : Nat) (d : Array Nat) (w : World) (h : RdU w a d) (hn : d.size = n) (hsz : n ≤ 2000) : Calls Try.prog 32 #[.bool true, .slice a n cap] w fun e w' => ∃ D, SortsG ltFl d D ∧ OrderedTo w n D e w' := by
  have H : Aside (RdU w a d ∧ d.size = n) := ⟨h, hn⟩
  clear h hn
  obtain ⟨i0, hi, hz0, hz1, hz2⟩ := info_parts (show (Try.prog.info? 23).map (fun i => (i.zero, i.size, i.bytes)) = some (some (.int .u64 0), 1, 8) by kernel_rfl)
  have hI : Aside (Try.prog.info? 23 = some i0 ∧ i0.zero = some (.int .u64 0) ∧ i0.size = 1 ∧ i0.bytes = 8) := ⟨hi, hz0, hz1, hz2⟩
  clear hi hz0 hz1 hz2
  obtain ⟨W, hW⟩ : ∃ W, W = w.alloc (.cells #[] 23) := ⟨_, rfl⟩
  have BW : Aside (Below w.heap.size w W ∧ W.heap.size = w.heap.size + 1 ∧ W.heap[w.heap.size]? = some (.cells #[] 23 (0, 0))) := ⟨by rw [hW]; exact below_alloc _ _, by rw [hW]; simp, by rw [hW]; exact heap_alloc_new _ _⟩
  have hcv := floats_calls a cap n d W (H.out.1.keep BW.out.1) H.out.2 hsz
  go_enter Try.func32, Try.ntmps32
  go_upto_region 2 with fail
  rw [← hW]
  clear hW
  go_wp2_with fail
  refine hcv.mono ?_
  rintro e w1 ⟨b, c2, rfl, hb1, hb2, hH, hbel⟩
  have hds : d.size = n := by exact H.out.2
  have hS := sort_x w1 b 0 c2 n d w1 ⟨hH, hb2, World.grownBy.refl _ _⟩ hds (by omega)
  have R1 : Aside (w.heap.size < b ∧ b < w1.heap.size ∧ Below w.heap.size w w1 ∧ w1.heap[w.heap.size]? = some (.cells #[] 23 (0, 0)) ∧ d.size = n) := ⟨by have := BW.out.2.1; omega, hb2, BW.out.1.trans (hbel.mono (by have := BW.out.2.1; omega)), (hbel.block _ (by have := BW.out.2.1; omega)).trans BW.out.2.2, hds⟩
  clear hcv hH hb1 hb2 hbel hds BW
  go_wp2_with fail
  refine hS.mono ?_
  rintro e w2 ⟨rfl, D, hD, hSt⟩
  have SD : Aside (SortsG ltFl d D) := hD
  have hDn : D.size = n := hD.size.trans R1.out.2.2.2.2
  obtain ⟨O, hO⟩ : ∃ O, O = D.map (fun x : Nat => x) := ⟨_, rfl⟩
  have EO : Aside (O = D.map (fun x : Nat => x) ∧ O.size = n ∧ D.size = n ∧ ∀ i, i < n → O[i]! = (fun x : Nat => x) D[i]!) := ⟨hO, by rw [hO, Array.size_map]; exact hDn, hDn, fun i hi => by
    rw [hO, getElem!_pos _ _ (by rw [Array.size_map, hDn]; exact hi), getElem!_pos D i (by rw [hDn]; exact hi)]; simp⟩
  have R2 : Aside (w2.ownsRow w.heap.size 23 1 (.slice (some ⟨w.heap.size, 0, none⟩) 0 0) 0 ((O.toList.take 0).map vU) ∧ Holds eFl w2 b 0 D ∧ w.heap.size ≠ b ∧ b < w2.heap.size ∧ Below w.heap.size w w2) := by
    have hg := hSt.grown
    refine ⟨⟨rfl, Or.inr ⟨w.heap.size, 0, #[], rfl, Nat.le_refl _, (hg.block _ (by have := R1.out; omega) (by intro e; have := R1.out.1; simp only [Option.some.injEq] at e; omega)).trans R1.out.2.2.2.1, Nat.le_refl _, by decide, rfl, rfl⟩⟩, hSt.holds, by have := R1.out.1; omega, hSt.lt, R1.out.2.2.1.grown hg (by have := R1.out; omega) (fun k ek => by cases ek; have := R1.out.1; omega)⟩
  clear hS hD hSt hDn hO R1
  go_wp2_with fail
  go_loopg [5, 20] n (fun g vk vi wr => ∃ (i gk kc : Nat), vk = .slice (some ⟨gk, 0, none⟩) i kc ∧ vi = .int .i64 i ∧ i ≤ n ∧ n - i ≤ g ∧ Aside (wr.ownsRow w.heap.size 23 1 (.slice (some ⟨gk, 0, none⟩) i kc) i ((O.toList.take i).map vU) ∧ Holds eFl wr b 0 D ∧ gk ≠ b ∧ b < wr.heap.size ∧ Below w.heap.size w wr))
  case atStart => exact ⟨0, w.heap.size, 0, rfl, rfl, Nat.zero_le _, by omega, R2.out⟩
  case round =>
    clear R2
    obtain ⟨i, gk, kc, rfl, rfl, hin, hg, HO⟩ := hrel
    by_cases hlt : i < n
    · have hltz : (i : Int) < (n : Int) := by omega
      obtain ⟨x, hx⟩ : ∃ v, v = D[i]! := ⟨_, rfl⟩
      have c1 : wr.cell? ⟨b, i, none⟩ = some (.float .f64 x) := by
        have := (HO.out.2.1 i (by rw [EO.out.2.2.1]; exact hlt)).1
        rw [← hx, Nat.zero_add] at this
        exact this
      have HX : Aside _ := hx
      have hfb := bits_run x
      have hox : O[i]! = x := by rw [EO.out.2.2.2 i hlt, ← HX.out]
      have V1 : Aside ((wr.alloc (.cells #[.int .u64 (x : Int)] 23)).ownsRow w.heap.size 23 1 (.slice (some ⟨gk, 0, none⟩) i kc) i ((O.toList.take i).map vU)) := own_below HO.out.1 (below_alloc _ _)
      have hbw := HO.out.2.2.2.2.size
      have X : Aside ((O.toList.take (i + 1)).map vU = (O.toList.take i).map vU ++ [.int .u64 (x : Int)]) := by
        show _ = _
        rw [takeU_snoc (by rw [EO.out.2.1]; exact hlt), List.map_append, hox]
        rfl
      obtain ⟨hi, hz0, hz1, hz2⟩ := hI.out
      clear hx hox
      go_wp2_with (at_builtin; refine wpList_append_lies _ rfl _ _ 46 rfl w.heap.size 23 i0 (.int .u64 0) 1 8 Try.underlying46 hi hz0 hz1 hz2 rfl (by decide) _ i _ rfl V1.out ⟨wr.heap.size, 0, none⟩ 1 1 [.int .u64 (x : Int)] rfl rfl ?c1 ?c2 (by decide) ?c3 ?c4 ?c5 (wr.heap.size + 1) ?c6 ?_)
      case c1 =>
        intro j u hu
        match j, hu with
        | 0, hu => simp at hu; subst hu; simp [Addr.add, go_sem]
      case c2 => intro u hu; simp at hu; subst hu; rfl
      case c3 => unfold maxLen; omega
      case c4 => omega
      case c5 => simp; omega
      case c6 => simp
      intro g' kc' w3 hown hgrow hat hlt'
      have R3 : Aside (w3.ownsRow w.heap.size 23 1 (.slice (some ⟨g', 0, none⟩) (i + 1) kc') (i + 1) ((O.toList.take (i + 1)).map vU) ∧ Holds eFl w3 b 0 D ∧ g' ≠ b ∧ b < w3.heap.size ∧ Below w.heap.size w w3) := by
        obtain ⟨h1, h2, h3, h4, h5⟩ := HO.out
        have hbV : b < (wr.alloc (.cells #[.int .u64 (x : Int)] 23)).heap.size := by simp; omega
        have hkb : w3.heap[b]? = wr.heap[b]? := (hgrow.block b hbV (by intro e; simp only [Value.ownBlock, Option.some.injEq] at e; omega)).trans (heap_alloc_old _ _ h4)
        refine ⟨by rw [X.out]; simpa [List.map_take] using hown, fun j hj => ?_, ?_, Nat.lt_of_lt_of_le hbV hgrow.size, own_grown' V1.out (Below.alloc h5 (by omega) _) (Nat.le_refl _) (by simp; omega) hgrow⟩
        · obtain ⟨e1, e2⟩ := h2 j hj
          exact ⟨(World.cell?_of_block (w := wr) hkb).trans e1, (World.frozen?_of_block (w := wr) hkb).trans e2⟩
        · rcases hat with e | e
          · simp only [Value.ownBlock, Option.some.injEq] at e; omega
          · omega
      clear hi hz0 hz1 hz2 c1 V1 hown hgrow hat hlt' X hfb HX hbw HO
      go_wp2_with fail
      go_roundg (n - (i + 1))
      case measure => omega
      case rel => exact ⟨i + 1, g', kc', rfl, by go_num, by omega, Nat.le_refl _, R3.out⟩
    · have hltz : ¬ (i : Int) < (n : Int) := by omega
      have e0 : i = n := by omega
      subst e0
      have RF : Aside (∃ D, SortsG ltFl d D ∧ OrderedTo w i D (.returned (.slice (some ⟨gk, 0, none⟩) i kc)) wr) := by
        refine ⟨D, SD.out, gk, kc, rfl, ?_, HO.out.2.2.2.2⟩
        rw [show D = O by rw [EO.out.1]; simp]
        have hO := HO.out.1
        rw [show (O.toList.take i).map vU = O.toList.map vU by rw [← EO.out.2.1, ← Array.length_toList, List.take_length]] at hO
        rcases own_rowE vU 23 hO with h | ⟨g, kc', e, hg1, hg2, hkc, hks⟩
        · cases h
        · cases e
          exact fun _ => ⟨gk, 0, rfl, hg2, fun j hj => by have := (hks j (by simpa using hj)).1; simpa using this⟩
      clear HO
      go_wp2_with fail
      go_ret
      exact RF.out

set_option maxHeartbeats 2000000 in
set_option maxRecDepth 1000000 in
theorem sort_o (w0 : World) (blk off cap n : Nat) (d : Array Int) (w : World) (S : St1 e64 w0 blk off d w) (hn : d.size = n) (hsz : n < 4611686018427387904) :
    Calls Try.prog 75 #[.slice (some ⟨blk, off, none⟩) n cap] w fun e w' => e = .returned (.tuple #[]) ∧ ∃ D, SortsG ltInt d D ∧ St1 e64 w0 blk off D w' := by
  have hL := bitLen_lt' n
  have hc := pdqsortN_o w0 blk off cap n hsz (n - 0 + 1) 0 n (Lib.bitLen n) d w (by omega) S hn (Nat.zero_le _) (Nat.le_refl _) hL
  have hs : Aside (SortsG ltInt d (pdq ltInt d 0 n (Lib.bitLen n) true true)) := sortsG_pdq _ swo_ltInt d n _ hn
  have hl := bits_Len (n : Int) w (by omega) (by omega)
  rw [Int.toNat_natCast] at hl
  have hw : IntKind.u64.wrap (n : Int) = (n : Int) := by rw [IntKind.wrap_u64]; omega
  generalize Lib.bitLen n = L at hL hc hs hl
  generalize pdq ltInt d 0 n L true true = D at hc hs
  clear S
  go_enter Try.func75, Try.ntmps75
  go_wp2_with fail
  refine hl.mono ?_
  rintro e wz ⟨rfl, hwz⟩
  subst wz
  go_wp2_with fail
  refine hc.mono ?_
  rintro e w' ⟨rfl, h⟩
  go_wp2_with fail
  go_end0
  exact ⟨rfl, D, hs.out, h⟩

set_option maxHeartbeats 4000000 in
set_option maxRecDepth 1000000 in
theorem ordered_I (a : Option Addr) (cap n : Nat) (d : Array Nat) (w : World) (h : RdU w a d) (hn : d.size = n) (hsz : n ≤ 2000) : Calls Try.prog 32 #[.bool false, .slice a n cap] w fun e w' => ∃ D, SortsG ltInt (d.map toI) D ∧ OrderedTo w n (D.map fromI) e w' := by
  have H : Aside (RdU w a d ∧ d.size = n) := ⟨h, hn⟩
  clear h hn
  obtain ⟨i0, hi, hz0, hz1, hz2⟩ := info_parts (show (Try.prog.info? 23).map (fun i => (i.zero, i.size, i.bytes)) = some (some (.int .u64 0), 1, 8) by kernel_rfl)
  have hI : Aside (Try.prog.info? 23 = some i0 ∧ i0.zero = some (.int .u64 0) ∧ i0.size = 1 ∧ i0.bytes = 8) := ⟨hi, hz0, hz1, hz2⟩
  clear hi hz0 hz1 hz2
  obtain ⟨W, hW⟩ : ∃ W, W = w.alloc (.cells #[] 23) := ⟨_, rfl⟩
  have BW : Aside (Below w.heap.size w W ∧ W.heap.size = w.heap.size + 1 ∧ W.heap[w.heap.size]? = some (.cells #[] 23 (0, 0))) := ⟨by rw [hW]; exact below_alloc _ _, by rw [hW]; simp, by rw [hW]; exact heap_alloc_new _ _⟩
  have hcv := integers_calls a cap n d W (H.out.1.keep BW.out.1) H.out.2 hsz
  go_enter Try.func32, Try.ntmps32
  go_upto_region 2 with fail
  rw [← hW]
  clear hW
  go_wp2_with fail
  refine hcv.mono ?_
  rintro e w1 ⟨b, c2, rfl, hb1, hb2, hH, hbel⟩
  have hds : (d.map toI).size = n := by rw [Array.size_map]; exact H.out.2
  have hS := sort_o w1 b 0 c2 n (d.map toI) w1 ⟨hH, hb2, World.grownBy.refl _ _⟩ hds (by omega)
  have R1 : Aside (w.heap.size < b ∧ b < w1.heap.size ∧ Below w.heap.size w w1 ∧ w1.heap[w.heap.size]? = some (.cells #[] 23 (0, 0)) ∧ (d.map toI).size = n) := ⟨by have := BW.out.2.1; omega, hb2, BW.out.1.trans (hbel.mono (by have := BW.out.2.1; omega)), (hbel.block _ (by have := BW.out.2.1; omega)).trans BW.out.2.2, hds⟩
  clear hcv hH hb1 hb2 hbel hds BW
  go_wp2_with fail
  refine hS.mono ?_
  rintro e w2 ⟨rfl, D, hD, hSt⟩
  have SD : Aside (SortsG ltInt (d.map toI) D) := hD
  have hDn : D.size = n := hD.size.trans R1.out.2.2.2.2
  obtain ⟨O, hO⟩ : ∃ O, O = D.map fromI := ⟨_, rfl⟩
  have EO : Aside (O = D.map fromI ∧ O.size = n ∧ D.size = n ∧ ∀ i, i < n → O[i]! = fromI D[i]!) := ⟨hO, by rw [hO, Array.size_map]; exact hDn, hDn, fun i hi => by
    rw [hO, getElem!_pos _ _ (by rw [Array.size_map, hDn]; exact hi), getElem!_pos D i (by rw [hDn]; exact hi)]; simp⟩
  have R2 : Aside (w2.ownsRow w.heap.size 23 1 (.slice (some ⟨w.heap.size, 0, none⟩) 0 0) 0 ((O.toList.take 0).map vU) ∧ Holds e64 w2 b 0 D ∧ w.heap.size ≠ b ∧ b < w2.heap.size ∧ Below w.heap.size w w2) := by
    have hg := hSt.grown
    refine ⟨⟨rfl, Or.inr ⟨w.heap.size, 0, #[], rfl, Nat.le_refl _, (hg.block _ (by have := R1.out; omega) (by intro e; have := R1.out.1; simp only [Option.some.injEq] at e; omega)).trans R1.out.2.2.2.1, Nat.le_refl _, by decide, rfl, rfl⟩⟩, hSt.holds, by have := R1.out.1; omega, hSt.lt, R1.out.2.2.1.grown hg (by have := R1.out; omega) (fun k ek => by cases ek; have := R1.out.1; omega)⟩
  clear hS hD hSt hDn hO R1
  go_wp2_with fail
  go_loopg [5, 37] n (fun g vk vi wr => ∃ (i gk kc : Nat), vk = .slice (some ⟨gk, 0, none⟩) i kc ∧ vi = .int .i64 i ∧ i ≤ n ∧ n - i ≤ g ∧ Aside (wr.ownsRow w.heap.size 23 1 (.slice (some ⟨gk, 0, none⟩) i kc) i ((O.toList.take i).map vU) ∧ Holds e64 wr b 0 D ∧ gk ≠ b ∧ b < wr.heap.size ∧ Below w.heap.size w wr))
  case atStart => exact ⟨0, w.heap.size, 0, rfl, rfl, Nat.zero_le _, by omega, R2.out⟩
  case round =>
    clear R2
    obtain ⟨i, gk, kc, rfl, rfl, hin, hg, HO⟩ := hrel
    by_cases hlt : i < n
    · have hltz : (i : Int) < (n : Int) := by omega
      obtain ⟨y, hx⟩ : ∃ v, v = D[i]! := ⟨_, rfl⟩
      have c1 : wr.cell? ⟨b, i, none⟩ = some (.int .i64 y) := by
        have := (HO.out.2.1 i (by rw [EO.out.2.2.1]; exact hlt)).1
        rw [← hx, Nat.zero_add] at this
        exact this
      have HX : Aside _ := hx
      obtain ⟨x, hxx⟩ : ∃ x, x = fromI y := ⟨_, rfl⟩
      have hfb : IntKind.u64.wrap y = (x : Int) := by rw [hxx]; exact (Int.toNat_of_nonneg (wrap_u64_nonneg' y)).symm
      have HXX : Aside _ := hxx
      clear hxx
      have hox : O[i]! = x := by rw [EO.out.2.2.2 i hlt, ← HX.out]; exact HXX.out.symm
      have V1 : Aside ((wr.alloc (.cells #[.int .u64 (x : Int)] 23)).ownsRow w.heap.size 23 1 (.slice (some ⟨gk, 0, none⟩) i kc) i ((O.toList.take i).map vU)) := own_below HO.out.1 (below_alloc _ _)
      have hbw := HO.out.2.2.2.2.size
      have X : Aside ((O.toList.take (i + 1)).map vU = (O.toList.take i).map vU ++ [.int .u64 (x : Int)]) := by
        show _ = _
        rw [takeU_snoc (by rw [EO.out.2.1]; exact hlt), List.map_append, hox]
        rfl
      obtain ⟨hi, hz0, hz1, hz2⟩ := hI.out
      clear hx hox
      go_wp2_with (at_builtin; refine wpList_append_lies _ rfl _ _ 46 rfl w.heap.size 23 i0 (.int .u64 0) 1 8 Try.underlying46 hi hz0 hz1 hz2 rfl (by decide) _ i _ rfl V1.out ⟨wr.heap.size, 0, none⟩ 1 1 [.int .u64 (x : Int)] rfl rfl ?c1 ?c2 (by decide) ?c3 ?c4 ?c5 (wr.heap.size + 1) ?c6 ?_)
      case c1 =>
        intro j u hu
        match j, hu with
        | 0, hu => simp at hu; subst hu; simp [Addr.add, go_sem]
      case c2 => intro u hu; simp at hu; subst hu; rfl
      case c3 => unfold maxLen; omega
      case c4 => omega
      case c5 => simp; omega
      case c6 => simp
      intro g' kc' w3 hown hgrow hat hlt'
      have R3 : Aside (w3.ownsRow w.heap.size 23 1 (.slice (some ⟨g', 0, none⟩) (i + 1) kc') (i + 1) ((O.toList.take (i + 1)).map vU) ∧ Holds e64 w3 b 0 D ∧ g' ≠ b ∧ b < w3.heap.size ∧ Below w.heap.size w w3) := by
        obtain ⟨h1, h2, h3, h4, h5⟩ := HO.out
        have hbV : b < (wr.alloc (.cells #[.int .u64 (x : Int)] 23)).heap.size := by simp; omega
        have hkb : w3.heap[b]? = wr.heap[b]? := (hgrow.block b hbV (by intro e; simp only [Value.ownBlock, Option.some.injEq] at e; omega)).trans (heap_alloc_old _ _ h4)
        refine ⟨by rw [X.out]; simpa [List.map_take] using hown, fun j hj => ?_, ?_, Nat.lt_of_lt_of_le hbV hgrow.size, own_grown' V1.out (Below.alloc h5 (by omega) _) (Nat.le_refl _) (by simp; omega) hgrow⟩
        · obtain ⟨e1, e2⟩ := h2 j hj
          exact ⟨(World.cell?_of_block (w := wr) hkb).trans e1, (World.frozen?_of_block (w := wr) hkb).trans e2⟩
        · rcases hat with e | e
          · simp only [Value.ownBlock, Option.some.injEq] at e; omega
          · omega
      clear hi hz0 hz1 hz2 c1 V1 hown hgrow hat hlt' X hfb HX hbw HO HXX
      go_wp2_with fail
      go_roundg (n - (i + 1))
      case measure => omega
      case rel => exact ⟨i + 1, g', kc', rfl, by go_num, by omega, Nat.le_refl _, R3.out⟩
    · have hltz : ¬ (i : Int) < (n : Int) := by omega
      have e0 : i = n := by omega
      subst e0
      have RF : Aside (∃ D, SortsG ltInt (d.map toI) D ∧ OrderedTo w i (D.map fromI) (.returned (.slice (some ⟨gk, 0, none⟩) i kc)) wr) := by
        refine ⟨D, SD.out, gk, kc, rfl, ?_, HO.out.2.2.2.2⟩
        rw [← EO.out.1]
        have hO := HO.out.1
        rw [show (O.toList.take i).map vU = O.toList.map vU by rw [← EO.out.2.1, ← Array.length_toList, List.take_length]] at hO
        rcases own_rowE vU 23 hO with h | ⟨g, kc', e, hg1, hg2, hkc, hks⟩
        · cases h
        · cases e
          exact fun _ => ⟨gk, 0, rfl, hg2, fun j hj => by have := (hks j (by simpa using hj)).1; simpa using this⟩
      clear HO
      go_wp2_with fail
      go_ret
      exact RF.out
end Go.Proofs.Ytglgmkikegbchaa
