/- SortFunc, Sort, Reverse; impl.Whole by each of the sorts (printed by gen/sorted.py). -/
import Derived.Test.YtglgmkikegbchaaGaWhole
import Derived.Test.YtglgmkikegbchaaGWcPdqsort
import Derived.Test.YtglgmkikegbchaaGWfPdqsort
import Derived.Test.YtglgmkikegbchaaPh
import Derived.Test.YtglgmkikegbchaaGBS
import Derived.Sort.AssemblyPlain
import Derived.Test.YtglgmkikegbchaaPd
namespace Go.Proofs.Ytglgmkikegbchaa
open Go.RowKit Go.Sort

/-- The order turned round. -/
def flipB (lt : It → It → Bool) : It → It → Bool := fun x y => lt y x
theorem swo_flip {lt : It → It → Bool} (S : SWO lt) : SWO (flipB lt) := ⟨S.irrefl, fun x y z a b => S.trans z y x b a, fun x y z a b => S.ntrans z y x b a⟩

/-- What a sort leaves. -/
structure Sorts (lt : It → It → Bool) (d D : Array It) : Prop where
  size : D.size = d.size
  perm : D.toList.Perm d.toList
  asc : SWO lt → SortedIn lt 0 d.size D

theorem perm_whole {d D : Array It} (h : PermIn 0 d.size d D) : D.toList.Perm d.toList := by
  have h2 := h.2.2
  have e : D.extract 0 d.size = D := by rw [← h.1]; simp
  rwa [e, show d.extract 0 d.size = d by simp] at h2
theorem sorts_pdq (lt : It → It → Bool) (d : Array It) (n L : Nat) (hn : d.size = n) : Sorts lt d (pdq lt d 0 n L true true) := by
  subst hn
  exact ⟨(pdq_any lt d 0 d.size L true true (Nat.zero_le _) (Nat.le_refl _)).1, perm_whole (pdq_any lt d 0 d.size L true true (Nat.zero_le _) (Nat.le_refl _)), fun S => (pdq_sorts lt S d 0 d.size L true true (Nat.zero_le _) (Nat.le_refl _) (Or.inl rfl)).2⟩
theorem sorts_small (lt : It → It → Bool) (d : Array It) (h : d.size ≤ 1) : Sorts lt d d := ⟨rfl, List.Perm.refl _, fun _ i j _ h1 h2 => absurd h2 (by omega)⟩
theorem stable_permIn (lt : It → It → Bool) (d : Array It) : PermIn 0 d.size d (stable lt d d.size) := by
  have p1 := insBlocks_perm lt 20 d.size _ 0 d (Nat.le_refl _) (Nat.le_refl _) (fun d a b h => insertionSort_perm d a b h)
  have p2 := stableLoop_perm lt d.size _ 20 (insBlocks lt 20 d.size 0 d) (Nat.le_refl _) (by rw [p1.1]; exact Nat.le_refl _)
  exact permIn_trans _ _ _ _ _ p1 p2
theorem bitLenAux_le : ∀ f x, Lib.bitLenAux f x ≤ f
  | 0, _ => Nat.le_refl _
  | f + 1, x => by
    have := bitLenAux_le f (x / 2)
    unfold Lib.bitLenAux
    split <;> omega
theorem bitLen_lt (n : Nat) : Lib.bitLen n < 4611686018427387904 := by
  have := bitLenAux_le 64 n
  unfold Lib.bitLen
  omega

set_option maxHeartbeats 2000000 in
set_option maxRecDepth 1000000 in
theorem sortFunc_c (O : Value) (cf : It → It → Int) (hC : CmpC O cf) (w0 : World) (blk off cap n : Nat) (d : Array It) (w : World) (S : St2 w0 blk off d w) (hn : d.size = n) (hsz : n < 4611686018427387904) :
    Calls Try.prog 35 #[.slice (some ⟨blk, off, none⟩) n cap, .func (.func 36) #[O] #[]] w fun e w' =>
      e = .returned (.tuple #[]) ∧ ∃ D, Sorts (ltC cf) d D ∧ St2 w0 blk off D w' := by
  have hL := bitLen_lt n
  have hc := pdqsortN_c O cf hC w0 blk off cap n hsz (n - 0 + 1) 0 n (Lib.bitLen n) d w (by omega) S hn (Nat.zero_le _) (Nat.le_refl _) hL
  have hs : Aside (Sorts (ltC cf) d (pdq (ltC cf) d 0 n (Lib.bitLen n) true true)) := sorts_pdq _ d n _ hn
  have hl := bits_Len (n : Int) w (by omega) (by omega)
  rw [Int.toNat_natCast] at hl
  have hw : IntKind.u64.wrap (n : Int) = (n : Int) := by rw [IntKind.wrap_u64]; omega
  generalize Lib.bitLen n = L at hL hc hs hl
  generalize pdq (ltC cf) d 0 n L true true = D at hc hs
  clear S hC
  go_enter Try.func35, Try.ntmps35
  go_wp2_with fail
  refine hl.mono ?_
  rintro e w' ⟨rfl, rfl⟩
  go_wp2_with fail
  refine hc.mono ?_
  rintro e w' ⟨rfl, h⟩
  go_wp2_with fail
  go_end0
  exact ⟨rfl, D, hs.out, h⟩

/-- sort.Sort over whatever Interface value: how it tells its length is known. -/
theorem sort_any (T : TypeId) (rv : Value) (lt : It → It → Bool) (gl gs : Nat) (rl rs : Value) (w0 : World) (b n : Nat) (F : FaceOk T rv lt w0 b 0 n gl gs rl rs) (d : Array It) (w : World) (hn : d.size = n) (hsz : n < 4611686018427387904)
    (glen : Nat) (rlen : Value) (mLen : Sem.run Try.prog (method 303 T rv "Len") w = .ok (glen, rlen) w) (eLen : ∀ args w, (callFunc glen args).run Try.prog w = .ok (.enter glen args) w) (hl : Calls Try.prog glen #[rlen] w fun e w' => e = .returned (.int .i64 (n : Int)) ∧ St2 w0 b 0 d w') :
    Calls Try.prog 38 #[.iface T rv] w fun e w' => e = .returned (.tuple #[]) ∧ ∃ D, Sorts lt d D ∧ St2 w0 b 0 D w' := by
  have HF : Aside (FaceOk T rv lt w0 b 0 n gl gs rl rs) := F
  have HN : Aside (d.size = n) := hn
  clear F hn
  by_cases h1 : n ≤ 1
  · have h1z : (n : Int) ≤ 1 := by omega
    go_enter Try.func38, Try.ntmps38
    go_wp2_with fail
    refine hl.mono ?_
    rintro e w1 ⟨rfl, S1⟩
    have S2 : Aside _ := S1
    clear S1 mLen eLen hl
    go_wp2_with fail
    (try simp only [Exit.inBlock, Exit.then]); refine bodyPost_ret (results_none rfl _ _ _) rfl ?_
    exact ⟨rfl, d, sorts_small lt d (by rw [HN.out]; exact h1), S2.out⟩
  · have h1z : ¬ (n : Int) ≤ 1 := by omega
    have hL := bitLen_lt n
    have hB : ∀ W, Calls Try.prog 77 #[.int .u64 n] W fun e w' => e = .returned (.int .i64 (Lib.bitLen n)) ∧ w' = W := fun W => by
      have := bits_Len (n : Int) W (by omega) (by omega)
      rwa [Int.toNat_natCast] at this
    have hw : IntKind.u64.wrap (n : Int) = (n : Int) := by rw [IntKind.wrap_u64]; omega
    have hs : Aside (Sorts lt d (pdq lt d 0 n (Lib.bitLen n) true true)) := sorts_pdq _ d n _ HN.out
    have hc : Aside (∀ W, St2 w0 b 0 d W → Calls Try.prog 80 #[.iface T rv, .int .i64 0, .int .i64 n, .int .i64 (Lib.bitLen n)] W fun e w' => e = .returned (.tuple #[]) ∧ St2 w0 b 0 (pdq lt d 0 n (Lib.bitLen n) true true) w') := fun W SW =>
      pdqsortN_f T rv lt gl gs rl rs w0 b 0 n HF.out hsz (n - 0 + 1) 0 n (Lib.bitLen n) d W (by omega) SW HN.out (Nat.zero_le _) (Nat.le_refl _) hL
    generalize Lib.bitLen n = L at hL hc hs hB
    generalize pdq lt d 0 n L true true = D at hc hs
    go_enter Try.func38, Try.ntmps38
    go_wp2_with fail
    refine hl.mono ?_
    rintro e w1 ⟨rfl, S1⟩
    have S2 : Aside _ := S1
    have hl2 := hB w1
    clear S1 mLen eLen hl hB
    go_wp2_with fail
    refine hl2.mono ?_
    rintro e w2 ⟨rfl, rfl⟩
    have hc' := hc.out _ S2.out
    clear hl2 hc S2
    go_wp2_with fail
    refine hc'.mono ?_
    rintro e w' ⟨rfl, h⟩
    go_wp2_with fail
    go_end0
    exact ⟨rfl, D, hs.out, h⟩

theorem sort_f (o : Ordr) (HO : CmpC (vOrd o) (cfO o)) (w0 : World) (b cap n : Nat) (d : Array It) (w : World) (S : St2 w0 b 0 d w) (hn : d.size = n) (hsz : n < 4611686018427387904) :
    Calls Try.prog 38 #[.iface 70 (vFace b cap n o)] w fun e w' => e = .returned (.tuple #[]) ∧ ∃ D, Sorts (ltC (cfO o)) d D ∧ St2 w0 b 0 D w' :=
  sort_any 70 (vFace b cap n o) (ltC (cfO o)) _ _ _ _ w0 b n (face_ok o HO w0 b cap n) d w hn hsz 180 (vFace b cap n o) (by kernel_rfl) (fun args w => by kernel_rfl)
    ((faced_len o b cap n w).mono fun e w' ⟨h1, h2⟩ => ⟨h1, by rw [h2]; exact st2_alloc S _⟩)

set_option maxHeartbeats 2000000 in
set_option maxRecDepth 1000000 in
/-- reverse's Less: the other way round. -/
theorem rev_less (o : Ordr) (HO : CmpC (vOrd o) (cfO o)) (w0 W : World) (b cap n : Nat) (d : Array It) (S : St2 w0 b 0 d W) (hn : d.size = n) (i j : Nat) (hi : i < n) (hj : j < n) :
    Calls Try.prog 184 #[.agg #[.iface 70 (vFace b cap n o)], .int .i64 i, .int .i64 j] W fun e w' => e = .returned (.bool (flipB (ltC (cfO o)) d[i]! d[j]!)) ∧ ∃ q os, w' = grow (W.drewN q) os := by
  have HL := fun V S => faced_less o HO w0 V b cap n d S hn j i hj hi
  obtain ⟨V, hV⟩ : ∃ V, V = W.alloc (.cells #[.iface 70 (vFace b cap n o)] 121) := ⟨_, rfl⟩
  have SV : St2 w0 b 0 d V := by rw [hV]; exact st2_alloc S _
  have h1 := HL V SV
  have c0 : V.cell? ⟨W.heap.size, 0, none⟩ = some (.iface 70 (vFace b cap n o)) := by rw [hV]; simp [go_sem]
  have EW : Aside (V = W.alloc (.cells #[.iface 70 (vFace b cap n o)] 121)) := hV
  have mL : Sem.run Try.prog (method 303 70 (vFace b cap n o) "Less") V = .ok (181, vFace b cap n o) V := by kernel_rfl
  have eL : ∀ args w, (callFunc 181 args).run Try.prog w = .ok (.enter 181 args) w := fun args w => by kernel_rfl
  show Calls _ _ _ _ fun e w' => e = .returned (.bool (ltC (cfO o) d[j]! d[i]!)) ∧ _
  generalize ltC (cfO o) d[j]! d[i]! = R at h1 ⊢
  clear S SV HL HO hn hi hj
  obtain ⟨k, s, m0, m1, m2⟩ := o
  go_enter Try.func184, Try.ntmps184
  go_upto_region 1 with fail
  rw [← hV]
  clear hV
  go_wp2_with fail
  refine h1.mono ?_
  rintro e w' ⟨rfl, q, os, rfl⟩
  go_wp2_with fail
  go_ret
  exact ⟨rfl, q, _, by rw [EW.out, alloc_eq_grow]; exact grow_grow (W.drewN q) _ _⟩

/-! ### *reverse as an Interface -/
theorem find_less : (Try.prog.info? 119).bind (fun i => (i.methods.find? (·.name == "Less")).map fun m => (m.path, m.func)) = some (#[], some (184, false)) := by kernel_rfl
theorem find_swap : (Try.prog.info? 119).bind (fun i => (i.methods.find? (·.name == "Swap")).map fun m => (m.path, m.func)) = some (#[⟨121, 0, true⟩], none) := by kernel_rfl
theorem find_len : (Try.prog.info? 119).bind (fun i => (i.methods.find? (·.name == "Len")).map fun m => (m.path, m.func)) = some (#[⟨121, 0, true⟩], none) := by kernel_rfl
theorem find_parts {p : Array FieldStep} {f : Option (FuncId × Bool)} {name : String} (h : (Try.prog.info? 119).bind (fun i => (i.methods.find? (·.name == name)).map fun m => (m.path, m.func)) = some (p, f)) :
    ∃ i m, Try.prog.info? 119 = some i ∧ i.methods.find? (·.name == name) = some m ∧ m.path = p ∧ m.func = f := by
  cases hi : Try.prog.info? 119 with
  | none => rw [hi] at h; cases h
  | some i =>
    rw [hi] at h
    simp only [Option.bind_some, Option.map_eq_some_iff] at h
    obtain ⟨m, h1, h2⟩ := h
    cases h2
    exact ⟨i, m, rfl, h1, rfl, rfl⟩
theorem method_less (R : Nat) (X : Value) (W : World) (hc : W.cell? ⟨R, 0, none⟩ = some X) : Sem.run Try.prog (method 303 119 (.pointer (some ⟨R, 0, none⟩)) "Less") W = .ok (184, .agg #[X]) W := by
  obtain ⟨i, m, hi, h1, h2, h3⟩ := find_parts find_less
  have hu := Try.underlying119
  have ha := Try.isAgg121
  have hz := Try.sizeOf121
  have hn : ∀ (n : String) W, (Builtin.ssaWrapNilChk_ #[119] 119 #[.pointer (some ⟨R, 0, none⟩), strVal "", strVal n]).run Try.prog W = .ok (.pointer (some ⟨R, 0, none⟩)) W := fun n W => rfl
  have hp : ∀ W, (asAddr (.pointer (some ⟨R, 0, none⟩))).run Try.prog W = .ok ⟨R, 0, none⟩ W := fun W => rfl
  have hl := run_loadCells_list (P := Try.prog) W ⟨R, 0, none⟩ [X] (fun j v hv => by
    cases j with
    | zero => simp at hv; subst hv; simpa [Addr.add] using hc
    | succ j => simp at hv)
  obtain ⟨fuel, hf⟩ : ∃ f, (303 : Nat) = f + 1 := ⟨_, rfl⟩
  rw [hf]
  unfold method
  simp only [List.length_cons, List.length_nil] at hl
  simp [typeInfo, hi, h1, h2, h3, follow, receiverAt, run_underlying hu, Place.get, hn, loadVar, ha, hz, hp, hl]
theorem method_emb (name : String) (R : Nat) (b cap n : Nat) (o : Ordr) (g : Nat) (W : World) (hfd : (Try.prog.info? 119).bind (fun i => (i.methods.find? (·.name == name)).map fun m => (m.path, m.func)) = some (#[⟨121, 0, true⟩], none)) (hc : W.cell? ⟨R, 0, none⟩ = some (.iface 70 (vFace b cap n o)))
    (f : Nat) (hfl : (303 : Nat) = f + 1) (hm : Sem.run Try.prog (method f 70 (vFace b cap n o) name) W = .ok (g, vFace b cap n o) W) : Sem.run Try.prog (method 303 119 (.pointer (some ⟨R, 0, none⟩)) name) W = .ok (g, vFace b cap n o) W := by
  obtain ⟨i, m, hi, h1, h2, h3⟩ := find_parts hfd
  have hv := Try.underlying121
  have ha := Try.isAgg72
  have hz := Try.sizeOf72
  rw [hfl, method]
  simp [typeInfo, hi, h1, h2, h3, follow, run_underlying hv, Place.get, fieldPlace, hz, loadVar, ha, Addr.add, go_sem, hc]
  exact hm

/-- Where the box of *reverse lies, in whatever world the sort comes to. -/
theorem rev_box {w0 W : World} {b R : Nat} {d : Array It} {X : Value} (hc : w0.cell? ⟨R, 0, none⟩ = some X) (hR : R < w0.heap.size) (hne : R ≠ b) (S : St2 w0 b 0 d W) : W.cell? ⟨R, 0, none⟩ = some X :=
  (World.cell?_of_block (S.grown.block R hR (fun e => hne (by cases e; rfl)))).trans hc

theorem face_rev (o : Ordr) (HO : CmpC (vOrd o) (cfO o)) (w0 : World) (b cap n R : Nat) (hc : w0.cell? ⟨R, 0, none⟩ = some (.iface 70 (vFace b cap n o))) (hR : R < w0.heap.size) (hne : R ≠ b) :
    FaceOk 119 (.pointer (some ⟨R, 0, none⟩)) (flipB (ltC (cfO o))) w0 b 0 n 184 182 (.agg #[.iface 70 (vFace b cap n o)]) (vFace b cap n o) where
  eL := fun args w => by kernel_rfl
  eS := fun args w => by kernel_rfl
  methL := fun d W S => method_less R _ W (rev_box hc hR hne S)
  methS := fun d W S => method_emb "Swap" R b cap n o _ W find_swap (rev_box hc hR hne S) _ rfl (by kernel_rfl)
  less := fun d W i j hd S hi hj => rev_less o HO w0 W b cap n d S hd i j hi hj
  swap := fun d W i j hd S hi hj => faced_swap o w0 W b cap n d S hd i j hi hj

set_option maxHeartbeats 2000000 in
set_option maxRecDepth 1000000 in
theorem reverse_calls (v : Value) (w : World) : Calls Try.prog 40 #[.iface 70 v] w fun e w' => e = .returned (.iface 119 (.pointer (some ⟨w.heap.size, 0, none⟩))) ∧ w' = w.alloc (.cells #[.iface 70 v] 121) := by
  go_enter Try.func40, Try.ntmps40
  go_wp2_with fail
  go_ret
  exact ⟨rfl, rfl⟩

theorem sort_r (o : Ordr) (HO : CmpC (vOrd o) (cfO o)) (w0 : World) (b cap n R : Nat) (hc : w0.cell? ⟨R, 0, none⟩ = some (.iface 70 (vFace b cap n o))) (hR : R < w0.heap.size) (hne : R ≠ b) (d : Array It) (w : World) (S : St2 w0 b 0 d w) (hn : d.size = n) (hsz : n < 4611686018427387904) :
    Calls Try.prog 38 #[.iface 119 (.pointer (some ⟨R, 0, none⟩))] w fun e w' => e = .returned (.tuple #[]) ∧ ∃ D, Sorts (flipB (ltC (cfO o))) d D ∧ St2 w0 b 0 D w' :=
  sort_any 119 (.pointer (some ⟨R, 0, none⟩)) (flipB (ltC (cfO o))) _ _ _ _ w0 b n (face_rev o HO w0 b cap n R hc hR hne) d w hn hsz 180 (vFace b cap n o) (method_emb "Len" R b cap n o _ w find_len (rev_box hc hR hne S) _ rfl (by kernel_rfl)) (fun args w => by kernel_rfl)
    ((faced_len o b cap n w).mono fun e w' ⟨h1, h2⟩ => ⟨h1, by rw [h2]; exact st2_alloc S _⟩)

/-- What Whole leaves. -/
def SortedTo (w : World) (lt : It → It → Bool) (d : Array It) (e : Ending) (w' : World) : Prop := ∃ v D, e = .returned (.tuple #[v, .bool true]) ∧ Sorts lt d D ∧ CopiedTo w D v w'
set_option maxHeartbeats 2000000 in
set_option maxRecDepth 1000000 in
theorem whole_sort_c (a : Option Addr) (cap : Nat) (d : Array It) (o : Ordr) (h0 : 0 ≤ o.shift) (h63 : o.shift < 64) (w : World) (h : Rd2 w a d) (h12 : d.size ≤ 2000) :
    Calls Try.prog 13 #[.int .i64 0, .slice a d.size cap, vOrd o] w (SortedTo w (ltC (cfO o)) d) := by
  have H : Aside (Rd2 w a d) := h
  clear h
  have HC := cmpC_of o h0 h63
  obtain ⟨k, s, m0, m1, m2⟩ := o
  have hmf : ∀ (fn : Fn) (first cap : Array Value) (w : World), (Instr.makeFunc fn first cap).run Try.prog w = .ok (.func fn first cap) w := fun _ _ _ _ => rfl
  go_enter_defers Try.func13, Try.ntmps13
  go_wp2_with fail
  refine (copied_calls a cap d _ (H.out.below (((Below.refl _ w).alloc (Nat.le_refl _) _).alloc (by simp) _) (Nat.le_refl _)) (by omega)).mono ?_
  rintro e w1 ⟨v, rfl, b, c2, rfl, hb1, hb2, hcap, hH, hbel⟩
  simp only [World.size_alloc] at hb1 hbel
  have B1 : Aside (Below w.heap.size w w1) := (((Below.refl _ w).alloc (Nat.le_refl _) _).alloc (by simp) _).trans (hbel.mono (by omega))
  have hsz1 : w.heap.size + 2 ≤ w1.heap.size := by have := hbel.size; simpa using this
  have k0 := hbel.cell (p := ⟨w.heap.size, 0, none⟩) (by dsimp only; omega)
  have k1 := hbel.cell (p := ⟨w.heap.size, 1, none⟩) (by dsimp only; omega)
  have k2 := hbel.cell (p := ⟨w.heap.size, 2, none⟩) (by dsimp only; omega)
  have k3 := hbel.cell (p := ⟨w.heap.size, 3, none⟩) (by dsimp only; omega)
  have k4 := hbel.cell (p := ⟨w.heap.size, 4, none⟩) (by dsimp only; omega)
  have ok1 := hbel.cell (p := ⟨w.heap.size + 1, 0, none⟩) (by dsimp only; omega)
  have fk1 := hbel.frozen (p := ⟨w.heap.size + 1, 0, none⟩) (by dsimp only; omega)
  simp at k0 k1 k2 k3 k4 ok1 fk1
  have S1 : Aside (St2 w1 b 0 d w1) := ⟨hH, hb2, World.grownBy.refl _ _⟩
  have C1 := fun S => sortFunc_c (vOrd ⟨k, s, m0, m1, m2⟩) _ HC w1 b 0 c2 d.size d w1 S rfl (by omega)
  clear hbel hH
  go_wp2_with fail
  refine (C1 S1.out).mono ?_
  rintro e w2 ⟨rfl, D, hD, S2⟩
  have HD : Aside (Sorts (ltC (cfO ⟨k, s, m0, m1, m2⟩)) d D) := hD
  clear hD
  have g2 := S2.grown
  have ok2 := (kept_cell g2 (p := ⟨w.heap.size + 1, 0, none⟩) (by dsimp only; omega) (by simp; omega)).trans ok1
  have fk2 := (kept_frozen g2 (p := ⟨w.heap.size + 1, 0, none⟩) (by dsimp only; omega) (by simp; omega)).trans fk1
  have B2 : Aside (Below w.heap.size w w2) := below_grownBy B1.out g2 (by omega) (by omega)
  have sz2 : w.heap.size + 2 ≤ w2.heap.size := Nat.le_trans hsz1 g2.size
  have R2 : Aside (St2 w1 b 0 D w2) := S2
  clear S2 g2 ok1 fk1 k0 k1 k2 k3 k4 C1 S1 B1
  go_wp2_with fail
  obtain ⟨W3, e3⟩ : ∃ W, W = w2.setCell ⟨w.heap.size + 1, 0, none⟩ (.bool true) := ⟨_, rfl⟩
  have q3 : W3.cell? ⟨w.heap.size + 1, 0, none⟩ = some (.bool true) := by rw [e3]; exact World.cell?_setCell_same _ _ _ ok2
  have B3 : Aside (Below w.heap.size w W3) := by show Below _ _ _; rw [e3]; exact B2.out.setCell (by simp) _
  have R3 : Aside (Holds2 W3 b 0 D ∧ b < W3.heap.size) := by
    show _ ∧ _
    rw [e3]
    exact ⟨Holds2_of_block (Below.heap_setCell _ _ _ _ (by dsimp only; omega)) R2.out.holds, by simp; exact R2.out.lt⟩
  rw [← e3]
  clear e3 R2 B2 ok2 fk2 sz2
  refine leaves_cons (f := 33) (args := #[.pointer (some ⟨w.heap.size + 1, 0, none⟩)]) (by simp) (by simp [go_sem]) ?_
  refine (guarded_idle _ _).mono ?_
  rintro e u' w'' ⟨rfl, rfl, rfl⟩
  simp [Leaves, settle, results, Try.results13, go_sem, q3]
  have hs : D.size = d.size := HD.out.size
  refine ⟨_, D, rfl, HD.out, b, c2, by rw [hs], by omega, R3.out.2, by rw [hs]; exact hcap, R3.out.1, B3.out⟩
set_option maxHeartbeats 2000000 in
set_option maxRecDepth 1000000 in
theorem whole_sort_f (a : Option Addr) (cap : Nat) (d : Array It) (o : Ordr) (h0 : 0 ≤ o.shift) (h63 : o.shift < 64) (w : World) (h : Rd2 w a d) (h12 : d.size ≤ 2000) :
    Calls Try.prog 13 #[.int .i64 2, .slice a d.size cap, vOrd o] w (SortedTo w (ltC (cfO o)) d) := by
  have H : Aside (Rd2 w a d) := h
  clear h
  have HC := cmpC_of o h0 h63
  obtain ⟨k, s, m0, m1, m2⟩ := o
  have hmf : ∀ (fn : Fn) (first cap : Array Value) (w : World), (Instr.makeFunc fn first cap).run Try.prog w = .ok (.func fn first cap) w := fun _ _ _ _ => rfl
  go_enter_defers Try.func13, Try.ntmps13
  go_wp2_with fail
  refine (copied_calls a cap d _ (H.out.below (((Below.refl _ w).alloc (Nat.le_refl _) _).alloc (by simp) _) (Nat.le_refl _)) (by omega)).mono ?_
  rintro e w1 ⟨v, rfl, b, c2, rfl, hb1, hb2, hcap, hH, hbel⟩
  simp only [World.size_alloc] at hb1 hbel
  have B1 : Aside (Below w.heap.size w w1) := (((Below.refl _ w).alloc (Nat.le_refl _) _).alloc (by simp) _).trans (hbel.mono (by omega))
  have hsz1 : w.heap.size + 2 ≤ w1.heap.size := by have := hbel.size; simpa using this
  have k0 := hbel.cell (p := ⟨w.heap.size, 0, none⟩) (by dsimp only; omega)
  have k1 := hbel.cell (p := ⟨w.heap.size, 1, none⟩) (by dsimp only; omega)
  have k2 := hbel.cell (p := ⟨w.heap.size, 2, none⟩) (by dsimp only; omega)
  have k3 := hbel.cell (p := ⟨w.heap.size, 3, none⟩) (by dsimp only; omega)
  have k4 := hbel.cell (p := ⟨w.heap.size, 4, none⟩) (by dsimp only; omega)
  have ok1 := hbel.cell (p := ⟨w.heap.size + 1, 0, none⟩) (by dsimp only; omega)
  have fk1 := hbel.frozen (p := ⟨w.heap.size + 1, 0, none⟩) (by dsimp only; omega)
  simp at k0 k1 k2 k3 k4 ok1 fk1
  have S1 : Aside (St2 w1 b 0 d w1) := ⟨hH, hb2, World.grownBy.refl _ _⟩
  have C1 := fun S => sort_f ⟨k, s, m0, m1, m2⟩ HC w1 b c2 d.size d w1 S rfl (by omega)
  clear hbel hH
  go_wp2_with fail
  refine (C1 S1.out).mono ?_
  rintro e w2 ⟨rfl, D, hD, S2⟩
  have HD : Aside (Sorts (ltC (cfO ⟨k, s, m0, m1, m2⟩)) d D) := hD
  clear hD
  have g2 := S2.grown
  have ok2 := (kept_cell g2 (p := ⟨w.heap.size + 1, 0, none⟩) (by dsimp only; omega) (by simp; omega)).trans ok1
  have fk2 := (kept_frozen g2 (p := ⟨w.heap.size + 1, 0, none⟩) (by dsimp only; omega) (by simp; omega)).trans fk1
  have B2 : Aside (Below w.heap.size w w2) := below_grownBy B1.out g2 (by omega) (by omega)
  have sz2 : w.heap.size + 2 ≤ w2.heap.size := Nat.le_trans hsz1 g2.size
  have R2 : Aside (St2 w1 b 0 D w2) := S2
  clear S2 g2 ok1 fk1 k0 k1 k2 k3 k4 C1 S1 B1
  go_wp2_with fail
  obtain ⟨W3, e3⟩ : ∃ W, W = w2.setCell ⟨w.heap.size + 1, 0, none⟩ (.bool true) := ⟨_, rfl⟩
  have q3 : W3.cell? ⟨w.heap.size + 1, 0, none⟩ = some (.bool true) := by rw [e3]; exact World.cell?_setCell_same _ _ _ ok2
  have B3 : Aside (Below w.heap.size w W3) := by show Below _ _ _; rw [e3]; exact B2.out.setCell (by simp) _
  have R3 : Aside (Holds2 W3 b 0 D ∧ b < W3.heap.size) := by
    show _ ∧ _
    rw [e3]
    exact ⟨Holds2_of_block (Below.heap_setCell _ _ _ _ (by dsimp only; omega)) R2.out.holds, by simp; exact R2.out.lt⟩
  rw [← e3]
  clear e3 R2 B2 ok2 fk2 sz2
  refine leaves_cons (f := 33) (args := #[.pointer (some ⟨w.heap.size + 1, 0, none⟩)]) (by simp) (by simp [go_sem]) ?_
  refine (guarded_idle _ _).mono ?_
  rintro e u' w'' ⟨rfl, rfl, rfl⟩
  simp [Leaves, settle, results, Try.results13, go_sem, q3]
  have hs : D.size = d.size := HD.out.size
  refine ⟨_, D, rfl, HD.out, b, c2, by rw [hs], by omega, R3.out.2, by rw [hs]; exact hcap, R3.out.1, B3.out⟩
set_option maxHeartbeats 2000000 in
set_option maxRecDepth 1000000 in
theorem whole_sort_r (a : Option Addr) (cap : Nat) (d : Array It) (o : Ordr) (h0 : 0 ≤ o.shift) (h63 : o.shift < 64) (w : World) (h : Rd2 w a d) (h12 : d.size ≤ 2000) :
    Calls Try.prog 13 #[.int .i64 4, .slice a d.size cap, vOrd o] w (SortedTo w (flipB (ltC (cfO o))) d) := by
  have H : Aside (Rd2 w a d) := h
  clear h
  have HC := cmpC_of o h0 h63
  obtain ⟨k, s, m0, m1, m2⟩ := o
  have hmf : ∀ (fn : Fn) (first cap : Array Value) (w : World), (Instr.makeFunc fn first cap).run Try.prog w = .ok (.func fn first cap) w := fun _ _ _ _ => rfl
  go_enter_defers Try.func13, Try.ntmps13
  go_wp2_with fail
  refine (copied_calls a cap d _ (H.out.below (((Below.refl _ w).alloc (Nat.le_refl _) _).alloc (by simp) _) (Nat.le_refl _)) (by omega)).mono ?_
  rintro e w1 ⟨v, rfl, b, c2, rfl, hb1, hb2, hcap, hH, hbel⟩
  simp only [World.size_alloc] at hb1 hbel
  have B1 : Aside (Below w.heap.size w w1) := (((Below.refl _ w).alloc (Nat.le_refl _) _).alloc (by simp) _).trans (hbel.mono (by omega))
  have hsz1 : w.heap.size + 2 ≤ w1.heap.size := by have := hbel.size; simpa using this
  have k0 := hbel.cell (p := ⟨w.heap.size, 0, none⟩) (by dsimp only; omega)
  have k1 := hbel.cell (p := ⟨w.heap.size, 1, none⟩) (by dsimp only; omega)
  have k2 := hbel.cell (p := ⟨w.heap.size, 2, none⟩) (by dsimp only; omega)
  have k3 := hbel.cell (p := ⟨w.heap.size, 3, none⟩) (by dsimp only; omega)
  have k4 := hbel.cell (p := ⟨w.heap.size, 4, none⟩) (by dsimp only; omega)
  have ok1 := hbel.cell (p := ⟨w.heap.size + 1, 0, none⟩) (by dsimp only; omega)
  have fk1 := hbel.frozen (p := ⟨w.heap.size + 1, 0, none⟩) (by dsimp only; omega)
  simp at k0 k1 k2 k3 k4 ok1 fk1
  have hR := reverse_calls (vFace b c2 d.size ⟨k, s, m0, m1, m2⟩) w1
  obtain ⟨V, hV⟩ : ∃ V, V = w1.alloc (.cells #[.iface 70 (vFace b c2 d.size ⟨k, s, m0, m1, m2⟩)] 121) := ⟨_, rfl⟩
  have BV := below_alloc w1 (.cells #[.iface 70 (vFace b c2 d.size ⟨k, s, m0, m1, m2⟩)] 121)
  rw [← hV] at hR BV
  have S1 : Aside (St2 V b 0 d V) := ⟨Holds2_of_block (BV.block b hb2) hH, Nat.lt_of_lt_of_le hb2 BV.size, World.grownBy.refl _ _⟩
  have cV : V.cell? ⟨w1.heap.size, 0, none⟩ = some (.iface 70 (vFace b c2 d.size ⟨k, s, m0, m1, m2⟩)) := by rw [hV]; exact cell_of_row _ _ 0 _ _ _ (heap_alloc_new _ _)
  have C1 := fun S => sort_r ⟨k, s, m0, m1, m2⟩ HC V b c2 d.size w1.heap.size cV (by rw [hV]; simp) (by omega) d V S rfl (by omega)
  have ok1' := (BV.cell (p := ⟨w.heap.size + 1, 0, none⟩) (by dsimp only; omega)).trans ok1
  have fk1' := (BV.frozen (p := ⟨w.heap.size + 1, 0, none⟩) (by dsimp only; omega)).trans fk1
  have BVV : Aside (Below w.heap.size w V) := B1.out.trans (BV.mono (by omega))
  have hszV : w.heap.size + 2 ≤ V.heap.size := Nat.le_trans hsz1 BV.size
  clear hbel hH BV cV hV
  go_wp2_with fail
  refine hR.mono ?_
  rintro e w1' ⟨rfl, hw'⟩
  subst w1'
  clear hR k0 k1 k2 k3 k4 ok1 fk1
  go_wp2_with fail
  refine (C1 S1.out).mono ?_
  rintro e w2 ⟨rfl, D, hD, S2⟩
  have HD : Aside (Sorts (flipB (ltC (cfO ⟨k, s, m0, m1, m2⟩))) d D) := hD
  clear hD
  have g2 := S2.grown
  have ok2 := (kept_cell g2 (p := ⟨w.heap.size + 1, 0, none⟩) (by dsimp only; omega) (by simp; omega)).trans ok1'
  have fk2 := (kept_frozen g2 (p := ⟨w.heap.size + 1, 0, none⟩) (by dsimp only; omega) (by simp; omega)).trans fk1'
  have B2 : Aside (Below w.heap.size w w2) := below_grownBy BVV.out g2 (by omega) (by omega)
  have sz2 : w.heap.size + 2 ≤ w2.heap.size := Nat.le_trans hszV g2.size
  have R2 : Aside (St2 V b 0 D w2) := S2
  clear S2 g2 ok1' fk1' C1 S1 B1 BVV
  go_wp2_with fail
  obtain ⟨W3, e3⟩ : ∃ W, W = w2.setCell ⟨w.heap.size + 1, 0, none⟩ (.bool true) := ⟨_, rfl⟩
  have q3 : W3.cell? ⟨w.heap.size + 1, 0, none⟩ = some (.bool true) := by rw [e3]; exact World.cell?_setCell_same _ _ _ ok2
  have B3 : Aside (Below w.heap.size w W3) := by show Below _ _ _; rw [e3]; exact B2.out.setCell (by simp) _
  have R3 : Aside (Holds2 W3 b 0 D ∧ b < W3.heap.size) := by
    show _ ∧ _
    rw [e3]
    exact ⟨Holds2_of_block (Below.heap_setCell _ _ _ _ (by dsimp only; omega)) R2.out.holds, by simp; exact R2.out.lt⟩
  rw [← e3]
  clear e3 R2 B2 ok2 fk2 sz2
  refine leaves_cons (f := 33) (args := #[.pointer (some ⟨w.heap.size + 1, 0, none⟩)]) (by simp) (by simp [go_sem]) ?_
  refine (guarded_idle _ _).mono ?_
  rintro e u' w'' ⟨rfl, rfl, rfl⟩
  simp [Leaves, settle, results, Try.results13, go_sem, q3]
  have hs : D.size = d.size := HD.out.size
  refine ⟨_, D, rfl, HD.out, b, c2, by rw [hs], by omega, R3.out.2, by rw [hs]; exact hcap, R3.out.1, B3.out⟩

theorem asc_of {lt : It → It → Bool} {D : Array It} {n : Nat} (hn : D.size = n) (h : SortedIn lt 0 n D) : ascB lt D = true := ascB_true.2 fun i hi => h i (i + 1) (Nat.zero_le _) (by omega) (by omega)
theorem asc_rev {lt : It → It → Bool} {D : Array It} {n : Nat} (hn : D.size = n) (h : SortedIn (flipB lt) 0 n D) : ascB lt (reverseRange D 0 n) = true := by
  have hz : (reverseRange D 0 n).size = n := (reverseRange_holds D 0 n (Nat.zero_le _) (by omega)).1.trans hn
  rw [ascB_true]
  intro i hi
  rw [hz] at hi
  have e1 := reverseRange_get D 0 n i (by omega) (by omega)
  have e2 := reverseRange_get D 0 n (i + 1) (by omega) (by omega)
  rw [Nat.zero_add] at e1 e2
  rw [e1, e2]
  exact h (n - 1 - (i + 1)) (n - 1 - i) (Nat.zero_le _) (by omega) (by omega)

/-- What Whole leaves, whichever sort it is. -/
def WholeTo (w : World) (f : Int) (I : Bool) (lt : It → It → Bool) (n : Nat) (d : Array It) (e : Ending) (w' : World) : Prop :=
  ∃ v D, e = .returned (.tuple #[v, .bool true]) ∧ D.size = n ∧ D.toList.Perm d.toList ∧ (I = true → (f ≠ 4 → ascB lt D = true) ∧ (f = 4 → ascB lt (reverseRange D 0 n) = true)) ∧ CopiedTo w D v w'

theorem whole_any (f : Int) (a : Option Addr) (cap : Nat) (d : Array It) (o : Ordr) (h0 : 0 ≤ o.shift) (h63 : o.shift < 64) (w : World) (h : Rd2 w a d) (h12 : d.size ≤ 2000) (f0 : 0 ≤ f) (f5 : f < 5) :
    Calls Try.prog 13 #[.int .i64 f, .slice a d.size cap, vOrd o] w (WholeTo w f (o.kind != 3) (ltC (cfO o)) d.size d) := by
  have hI : (o.kind != 3) = true → SWO (ltC (cfO o)) := fun e => by rw [ltC_by o (by simpa using e)]; exact swo_ltBy _
  rcases (show f = 0 ∨ f = 1 ∨ f = 2 ∨ f = 3 ∨ f = 4 by omega) with rfl | rfl | rfl | rfl | rfl
  · exact (whole_sort_c a cap d o h0 h63 w h h12).mono fun e w' ⟨v, D, h1, h2, h3⟩ => ⟨v, D, h1, h2.size, h2.perm, fun e => ⟨fun _ => asc_of h2.size (h2.asc (hI e)), fun e => absurd e (by decide)⟩, h3⟩
  · exact (whole_stable_c a cap d o h0 h63 w h h12).mono fun e w' ⟨v, h1, h3⟩ => ⟨v, _, h1, stable_size _ d, perm_whole (stable_permIn _ d), fun e => ⟨fun _ => asc_of (stable_size _ d) (by
      rw [ltC_by o (by simpa using e)]; exact (stable_stable (μ := muO o) d d.size (Nat.le_refl _)).2.1), fun e => absurd e (by decide)⟩, h3⟩
  · exact (whole_sort_f a cap d o h0 h63 w h h12).mono fun e w' ⟨v, D, h1, h2, h3⟩ => ⟨v, D, h1, h2.size, h2.perm, fun e => ⟨fun _ => asc_of h2.size (h2.asc (hI e)), fun e => absurd e (by decide)⟩, h3⟩
  · exact (whole_stable_f a cap d o h0 h63 w h h12).mono fun e w' ⟨v, h1, h3⟩ => ⟨v, _, h1, stable_size _ d, perm_whole (stable_permIn _ d), fun e => ⟨fun _ => asc_of (stable_size _ d) (by
      rw [ltC_by o (by simpa using e)]; exact (stable_stable (μ := muO o) d d.size (Nat.le_refl _)).2.1), fun e => absurd e (by decide)⟩, h3⟩
  · exact (whole_sort_r a cap d o h0 h63 w h h12).mono fun e w' ⟨v, D, h1, h2, h3⟩ => ⟨v, D, h1, h2.size, h2.perm, fun e => ⟨fun e => absurd rfl e, fun _ => asc_rev h2.size (h2.asc (swo_flip (hI e)))⟩, h3⟩
end Go.Proofs.Ytglgmkikegbchaa
