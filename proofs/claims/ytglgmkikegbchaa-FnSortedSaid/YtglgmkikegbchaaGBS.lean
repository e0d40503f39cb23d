/- Texts of this claim, laid together: Ord, Copied, Same, Base, Join, Count, Len, WcSmall, Whole0, Perm, Works, SOrd, Face, Pe, Mu, Own2, Copy2, Stably. -/
import Derived.Test.YtglgmkikegbchaaWc0
import Derived.Deep.AppendSrc
import Derived.BigQuiet
import Derived.Test.YtglgmkikegbchaaRows
import Derived.ProofKit
import Derived.OpenShut
import Derived.Deep.Slices
import Derived.Deep.SlicePairs
import Derived.Maps.RangeWalk
import Derived.Maps.Own
import Derived.WideKeyEntry
import Derived.DeepKeys4
import Derived.Shelf.Small.Bits
import Derived.Shelf.Strconv.Itoa0
import Derived.Test.YtglgmkikegbchaaProg
import Derived.Test.YtglgmkikegbchaaWcInsertionSort
import Derived.Defers
import Derived.Recover
import Derived.BigRegion
import Derived.Deep.RegionHeld3
import Derived.Lib.QuietBelow
import Derived.Test.YtglgmkikegbchaaWf0
import Derived.Test.YtglgmkikegbchaaPc
import Derived.Laws.AppendOwn
import Derived.OwnWalk
import Derived.Laws.CopyOwn
import Derived.Laws.CopyRow
import Derived.Test.YtglgmkikegbchaaMid
import Derived.Lib.BufferMore
import Derived.Deep.AppendLies
/- Orders: what (Order).compared says of two elements. -/
namespace Go.Proofs.Ytglgmkikegbchaa
open Go.RowKit Go.Sort

/-- An order, as data. -/
structure Ordr where
  kind : Int
  shift : Int
  m0 : Int
  m1 : Int
  m2 : Int

abbrev vOrd (o : Ordr) : Value := .agg #[.int .i64 o.kind, .int .i64 o.shift, .int .u64 o.m0, .int .u64 o.m1, .int .u64 o.m2]

/-- -1, 0 or 1: of two numbers. -/
def sg (a b : Int) : Int := if a < b then -1 else if b < a then 1 else 0

theorem of_calls (a b : Int) (w : World) : Calls Try.prog 78 #[.int .i64 a, .int .i64 b] w fun e w' => e = .returned (.int .i64 (sg a b)) ∧ w' = w := by
  unfold sg
  by_cases h : a < b
  · rw [if_pos h]
    go_enter Try.func78, Try.ntmps78
    go_wp2
    go_ret
    exact ⟨rfl, rfl⟩
  · rw [if_neg h]
    by_cases h2 : b < a
    · rw [if_pos h2]
      go_enter Try.func78, Try.ntmps78
      go_wp2
      go_ret
      exact ⟨rfl, rfl⟩
    · rw [if_neg h2]
      go_enter Try.func78, Try.ntmps78
      go_wp2
      go_ret
      exact ⟨rfl, rfl⟩

theorem grow3 (W : World) (a b c : Obj) (n : Nat) : (((W.alloc a).alloc b).alloc c).drewN n = grow (W.drewN n) #[a, b, c] := by
  rw [alloc_eq_grow, alloc_eq_grow, alloc_eq_grow, grow_grow, grow_grow]
  rfl
theorem grow3' (W : World) (a b c : Obj) : ∃ q os, ((W.alloc a).alloc b).alloc c = grow (W.drewN q) os := ⟨0, _, grow3 W a b c 0⟩

/-- What comes of comparing where there is no order. -/
def wildC (m0 m1 m2 x y : Int) : Int :=
  wrap64 (wrap64 ((IntKind.u64.wrap (IntKind.u64.wrap (IntKind.u64.wrap (IntKind.u64.wrap x * m0) + IntKind.u64.wrap (IntKind.u64.wrap y * m1)) + m2) / 8589934592).tmod 3) - 1)

/-- How two elements are compared in an order. -/
def cfO (o : Ordr) (x y : It) : Int :=
  if o.kind = 1 then sg y.1 x.1 else if o.kind = 2 then sg (x.1 / 2 ^ o.shift.toNat) (y.1 / 2 ^ o.shift.toNat) else if o.kind = 3 then wildC o.m0 o.m1 o.m2 x.1 y.1 else sg x.1 y.1

set_option maxHeartbeats 1000000 in
theorem cmp_up (o : Ordr) (hk1 : o.kind ≠ 1) (hk2 : o.kind ≠ 2) (hk3 : o.kind ≠ 3) (x y : It) (W : World) : Calls Try.prog 36 #[vOrd o, vIt x, vIt y] W fun e w' => e = .returned (.int .i64 (sg x.1 y.1)) ∧ ∃ q os, w' = grow (W.drewN q) os := by
  obtain ⟨k, s, m0, m1, m2⟩ := o
  obtain ⟨x1, x2⟩ := x
  obtain ⟨y1, y2⟩ := y
  dsimp only at hk1 hk2 hk3
  have a1 : (k == 1) = false := by simpa using hk1
  have a2 : (k == 2) = false := by simpa using hk2
  have a3 : (k == 3) = false := by simpa using hk3
  clear hk1 hk2 hk3
  go_enter Try.func36, Try.ntmps36
  go_wp2_with fail
  refine (of_calls x1 y1 _).mono ?_
  rintro e w' ⟨rfl, rfl⟩
  go_wp2_with fail
  go_ret
  exact ⟨rfl, grow3' _ _ _ _⟩

set_option maxHeartbeats 1000000 in
theorem cmp_down (o : Ordr) (hk1 : o.kind = 1) (x y : It) (W : World) : Calls Try.prog 36 #[vOrd o, vIt x, vIt y] W fun e w' => e = .returned (.int .i64 (sg y.1 x.1)) ∧ ∃ q os, w' = grow (W.drewN q) os := by
  obtain ⟨k, s, m0, m1, m2⟩ := o
  obtain ⟨x1, x2⟩ := x
  obtain ⟨y1, y2⟩ := y
  dsimp only at hk1
  subst hk1
  go_enter Try.func36, Try.ntmps36
  go_wp2_with fail
  refine (of_calls y1 x1 _).mono ?_
  rintro e w' ⟨rfl, rfl⟩
  go_wp2_with fail
  go_ret
  exact ⟨rfl, grow3' _ _ _ _⟩

set_option maxHeartbeats 1000000 in
theorem cmp_parts (o : Ordr) (hk1 : o.kind = 2) (h0 : 0 ≤ o.shift) (h63 : o.shift < 64) (x y : It) (W : World) : Calls Try.prog 36 #[vOrd o, vIt x, vIt y] W fun e w' => e = .returned (.int .i64 (sg (x.1 / 2 ^ o.shift.toNat) (y.1 / 2 ^ o.shift.toNat))) ∧ ∃ q os, w' = grow (W.drewN q) os := by
  obtain ⟨k, s, m0, m1, m2⟩ := o
  obtain ⟨x1, x2⟩ := x
  obtain ⟨y1, y2⟩ := y
  dsimp only at hk1 h0 h63
  subst hk1
  have g1 : ¬ s < 0 := by omega
  have g2 : ¬ 63 < s := by omega
  obtain ⟨n, rfl⟩ := Int.eq_ofNat_of_zero_le h0
  dsimp only
  rw [Int.toNat_natCast]
  go_enter Try.func36, Try.ntmps36
  go_wp2_with fail
  go_quiet ((go_at_call 78; exact Calls.quiet_of_same (of_calls _ _ _)))
  go_wp2_with fail
  go_ret
  exact ⟨rfl, nq, _, grow3 _ _ _ _ _⟩

set_option maxHeartbeats 1000000 in
theorem cmp_wild (o : Ordr) (hk1 : o.kind = 3) (x y : It) (W : World) : Calls Try.prog 36 #[vOrd o, vIt x, vIt y] W fun e w' => e = .returned (.int .i64 (wildC o.m0 o.m1 o.m2 x.1 y.1)) ∧ ∃ q os, w' = grow (W.drewN q) os := by
  obtain ⟨k, s, m0, m1, m2⟩ := o
  obtain ⟨x1, x2⟩ := x
  obtain ⟨y1, y2⟩ := y
  dsimp only at hk1
  subst hk1
  go_enter Try.func36, Try.ntmps36
  go_wp2_with fail
  go_ret
  exact ⟨rfl, grow3' _ _ _ _⟩

theorem cmpC_of (o : Ordr) (h0 : 0 ≤ o.shift) (h63 : o.shift < 64) : CmpC (vOrd o) (cfO o) := fun x y W => by
  unfold cfO
  by_cases k1 : o.kind = 1
  · rw [if_pos k1]; exact cmp_down o k1 x y W
  · rw [if_neg k1]
    by_cases k2 : o.kind = 2
    · rw [if_pos k2]; exact cmp_parts o k2 h0 h63 x y W
    · rw [if_neg k2]
      by_cases k3 : o.kind = 3
      · rw [if_pos k3]; exact cmp_wild o k3 x y W
      · rw [if_neg k3]; exact cmp_up o k1 k2 k3 x y W
end Go.Proofs.Ytglgmkikegbchaa

/- copied makes a copy of a list. -/
namespace Go.Proofs.Ytglgmkikegbchaa
open Go.RowKit Go.Sort

/-- A slice of elements that is read: its address, its elements. (An empty one may lie anywhere.) -/
def Rd2 (w : World) (a : Option Addr) (d : Array It) : Prop := 0 < d.size → ∃ blk off, a = some ⟨blk, off, none⟩ ∧ blk < w.heap.size ∧ ∀ i, i < d.size →
  w.cell? ⟨blk, off + i * 2, none⟩ = some (.int .i64 d[i]!.1) ∧ w.cell? ⟨blk, off + i * 2 + 1, none⟩ = some (.int .i64 d[i]!.2)

theorem Rd2.below {B : Nat} {w w' : World} {a : Option Addr} {d : Array It} (h : Rd2 w a d) (hb : Below B w w') (hB : w.heap.size ≤ B) : Rd2 w' a d := fun h0 => by
  obtain ⟨blk, off, e, hl, hc⟩ := h h0
  exact ⟨blk, off, e, Nat.lt_of_lt_of_le hl hb.size, fun i hi => ⟨(hb.cell (p := ⟨blk, off + i * 2, none⟩) (Nat.lt_of_lt_of_le hl hB)).trans (hc i hi).1, (hb.cell (p := ⟨blk, off + i * 2 + 1, none⟩) (Nat.lt_of_lt_of_le hl hB)).trans (hc i hi).2⟩⟩
theorem Rd2.grownBy {row : Option Nat} {w w' : World} {a : Option Addr} {d : Array It} (h : Rd2 w a d) (hg : w.grownBy w' row) (hr : ∀ blk off, a = some ⟨blk, off, none⟩ → some blk ≠ row) : Rd2 w' a d := fun h0 => by
  obtain ⟨blk, off, e, hl, hc⟩ := h h0
  exact ⟨blk, off, e, Nat.lt_of_lt_of_le hl hg.size, fun i hi => ⟨hg.cell (hc i hi).1 (hr _ _ e), hg.cell (hc i hi).2 (hr _ _ e)⟩⟩

/-- The elements' cells. -/
def cells2 : List It → List Value
  | [] => []
  | x :: r => .int .i64 x.1 :: .int .i64 x.2 :: cells2 r
theorem cells2_length : ∀ l : List It, (cells2 l).length = l.length * 2
  | [] => rfl
  | x :: r => by simp [cells2, cells2_length r]; omega
theorem cells2_fst : ∀ (l : List It) (i : Nat), i < l.length → (cells2 l)[i * 2]? = some (.int .i64 l[i]!.1)
  | [], i, h => by simp at h
  | x :: r, 0, _ => by simp [cells2]
  | x :: r, i + 1, h => by
    rw [show (i + 1) * 2 = i * 2 + 1 + 1 by omega]
    have := cells2_fst r i (by simpa using h)
    simpa [cells2] using this
theorem cells2_snd : ∀ (l : List It) (i : Nat), i < l.length → (cells2 l)[i * 2 + 1]? = some (.int .i64 l[i]!.2)
  | [], i, h => by simp at h
  | x :: r, 0, _ => by simp [cells2]
  | x :: r, i + 1, h => by
    rw [show (i + 1) * 2 + 1 = i * 2 + 1 + 1 + 1 by omega]
    have := cells2_snd r i (by simpa using h)
    simpa [cells2] using this
theorem cells2_one : ∀ (l : List It), ∀ u ∈ cells2 l, u.oneCell' = true
  | [], u, h => by simp [cells2] at h
  | x :: r, u, h => by
    simp only [cells2, List.mem_cons] at h
    rcases h with rfl | rfl | h
    · rfl
    · rfl
    · exact cells2_one r u h
theorem cells2_all (l : List It) (j : Nat) (u : Value) (h : (cells2 l)[j]? = some u) : ∃ i, i < l.length ∧ (j = i * 2 ∧ u = .int .i64 l[i]!.1 ∨ j = i * 2 + 1 ∧ u = .int .i64 l[i]!.2) := by
  have hj : j < l.length * 2 := by
    rw [← cells2_length]
    exact (List.getElem?_eq_some_iff.1 h).1
  refine ⟨j / 2, by omega, ?_⟩
  rcases Nat.mod_two_eq_zero_or_one j with e | e
  · left
    have e1 : j = j / 2 * 2 := by omega
    rw [e1, cells2_fst l (j / 2) (by omega)] at h
    exact ⟨e1, (Option.some.inj h).symm⟩
  · right
    have e1 : j = j / 2 * 2 + 1 := by omega
    rw [e1, cells2_snd l (j / 2) (by omega)] at h
    exact ⟨e1, (Option.some.inj h).symm⟩

theorem toList_get! (d : Array It) (i : Nat) : d.toList[i]! = d[i]! := by
  by_cases h : i < d.size
  · rw [getElem!_pos d i h, getElem!_pos d.toList i (by simpa using h)]; simp
  · rw [getElem!_neg d i h, getElem!_neg d.toList i (by simpa using h)]

theorem Rd2.src {P : Program} {tx e' : TypeId} (hk : P.underlying tx = some (.slice e')) {w : World} {a : Option Addr} {d : Array It} (h : Rd2 w a d) (c : Nat) : Src P 2 tx (.slice a d.size c) d.size (cells2 d.toList) w := by
  by_cases h0 : 0 < d.size
  · obtain ⟨blk, off, rfl, _, hc⟩ := h h0
    refine Src.ofSlice w hk _ _ _ _ (by rw [cells2_length]; simp) (fun j u hu => ?_) (cells2_one _)
    obtain ⟨i, hi, ⟨rfl, rfl⟩ | ⟨rfl, rfl⟩⟩ := cells2_all _ _ _ hu
    · rw [Addr.add_lit, toList_get!]; exact (hc i (by simpa using hi)).1
    · rw [Addr.add_lit, toList_get!, ← Nat.add_assoc]; exact (hc i (by simpa using hi)).2
  · have e0 : d.size = 0 := by omega
    have e1 : d.toList = [] := List.eq_nil_of_length_eq_zero (by simpa using e0)
    rw [e0, e1]
    cases a with
    | none => exact Src.ofNil w hk c
    | some ad => exact Src.ofSlice w hk ad 0 c [] rfl (fun j u hu => by simp at hu) (fun u hu => by simp at hu)

theorem holds2_new (w : World) (d : Array It) (z : Array Value) (e : TypeId) : Holds2 (w.alloc (.cells ((cells2 d.toList).toArray ++ z) e)) w.heap.size 0 d := fun i hi => by
  have hl : i < d.toList.length := by simpa using hi
  have hb : (w.alloc (.cells ((cells2 d.toList).toArray ++ z) e)).heap[w.heap.size]? = some (.cells ((cells2 d.toList).toArray ++ z) e (0, 0)) := heap_alloc_new w _
  have c : ∀ k u, (cells2 d.toList)[k]? = some u → (w.alloc (.cells ((cells2 d.toList).toArray ++ z) e)).cell? ⟨w.heap.size, 0 + k, none⟩ = some u := fun k u hu => by
    have hk := (List.getElem?_eq_some_iff.1 hu).1
    simp only [World.cell?, hb, Nat.zero_add]
    rw [Array.getElem?_append_left (by simpa using hk)]
    simpa using hu
  have f : ∀ k, (w.alloc (.cells ((cells2 d.toList).toArray ++ z) e)).frozen? ⟨w.heap.size, k, none⟩ = false := fun k => by
    simp only [World.frozen?, hb]
    simp
  exact ⟨by have := c _ _ (cells2_fst d.toList i hl); rwa [toList_get!] at this, by have := c _ _ (cells2_snd d.toList i hl); rwa [toList_get!] at this, f _, f _⟩

/-- What copied gives: a slice of its own that holds the elements. -/
def CopiedTo (w : World) (d : Array It) (v : Value) (w' : World) : Prop :=
  ∃ b cap, v = .slice (some ⟨b, 0, none⟩) d.size cap ∧ w.heap.size ≤ b ∧ b < w'.heap.size ∧ d.size ≤ cap ∧ Holds2 w' b 0 d ∧ Below w.heap.size w w'

theorem append_copy {P : Program} {t ty e : TypeId} {i : TypeInfo} (ht : P.underlying t = some (.slice e)) (hi : P.info? e = some i) (hz : i.zero = some (.agg #[.int .i64 0, .int .i64 0])) (hsize : i.size = 2) (hby : i.bytes = 16)
    (w : World) (a : Option Addr) (cap : Nat) (d : Array It) (h : Rd2 w a d) (hsz : d.size ≤ 2000) (E : TypeId) :
    ∃ v w', (Builtin.append_ #[t, t] ty #[.slice (some ⟨w.heap.size, 0, none⟩) 0 0, .slice a d.size cap]).run P (w.alloc (.cells #[] E)) = .ok v w' ∧ CopiedTo w d v w' := by
  have hb0 : Below w.heap.size w (w.alloc (.cells #[] E)) := (Below.refl _ w).alloc (Nat.le_refl _) _
  have h' : Rd2 (w.alloc (.cells #[] E)) a d := h.below hb0 (Nat.le_refl _)
  have hs : Src P i.size t (.slice a d.size cap) d.size (cells2 d.toList) (w.alloc (.cells #[] E)) := by rw [hsize]; exact h'.src ht cap
  by_cases h0 : 0 < d.size
  · have hr := run_append_grow_src (P := P) (w.alloc (.cells #[] E)) t t ty e i _ ht hi hz (some ⟨w.heap.size, 0, none⟩) 0 0 []
      (run_firstCells_some _ _ _ _ _ _ _ (by simp) (fun j u hu => by simp at hu)) (.slice a d.size cap) d.size _ hs (by omega) (by omega) (growslice_fits (by omega) (by rw [hby]; omega))
    simp only [Nat.zero_add, List.nil_append] at hr
    refine ⟨_, _, hr, w.heap.size + 1, grownCap (w.alloc (.cells #[] E)) d.size 0 e, by simp, by omega, by simp, ?_, ?_, ?_⟩
    · have := grownCap_ge (w.alloc (.cells #[] E)) (0 + d.size) 0 e
      simpa using this
    · have := holds2_new (w.alloc (.cells #[] E)).drew d (Builtin.zeroCells (Value.agg #[.int .i64 0, .int .i64 0]).cells (grownCap (w.alloc (.cells #[] E)) d.size 0 e - d.size)) e
      simpa using this
    · exact (hb0.drew).alloc (by simp) _
  · have e0 : d.size = 0 := by omega
    have hr := run_append_room_src (P := P) (w.alloc (.cells #[] E)) t t ty e i ht hi w.heap.size 0 0 0 (.slice a d.size cap) d.size _ hs (by omega)
      (fun j hj => by rw [cells2_length] at hj; simp at hj; omega) (fun j hj => by rw [cells2_length] at hj; simp at hj; omega)
    have e1 : cells2 d.toList = [] := List.eq_nil_of_length_eq_zero (by rw [cells2_length]; simp; omega)
    rw [e1] at hr
    refine ⟨_, _, hr, w.heap.size, 0, by simp, Nat.le_refl _, by simp [World.setCells], by omega, fun k hk => by omega, hb0⟩

/-- An append whose run is known, met in the walk. -/
theorem wpList_append_eq {P : Program} {ops : Array Oper} {rest : List Oper} {o : Oper} {a : Act} {Q : Exit → Act → World → Prop} {w : World} (hgd : o.guard = none) (s x : Operand) (t : TypeId)
    (ho : o.op = .call { callee := .builtin .append, args := #[s, x], argTypes := #[t, t] }) (sv xv v : Value) (w' : World) (hs : a.eval s = sv) (hx : a.eval x = xv)
    (hr : (Builtin.append_ #[t, t] o.type #[sv, xv]).run P w = .ok v w') (h : wpList P ops Q rest (a.put o.dst v) w') : wpList P ops Q (o :: rest) a w :=
  wpList_plain hgd fun _ hK => by
    unfold Oper.wp execOp
    simp only [ho, resolve, invoke, builtin, Sem.run_bind, Sem.run_pure, Result.andThen_ok, List.map_toArray, List.map_cons, List.map_nil, hs, hx, hr]
    exact hK _ _ h

set_option maxHeartbeats 1000000 in
set_option maxRecDepth 100000 in
theorem copied_calls (a : Option Addr) (cap : Nat) (d : Array It) (w : World) (h : Rd2 w a d) (hsz : d.size ≤ 2000) :
    Calls Try.prog 34 #[.slice a d.size cap] w fun e w' => ∃ v, e = .returned v ∧ CopiedTo w d v w' := by
  obtain ⟨i0, hi, hz0, hz1, hz2⟩ := info_parts (show (Try.prog.info? 34).map (fun i => (i.zero, i.size, i.bytes)) = some (some (.agg #[.int .i64 0, .int .i64 0]), 2, 16) by kernel_rfl)
  have hap : Aside (∃ v w', (Builtin.append_ #[22, 22] 22 #[.slice (some ⟨w.heap.size, 0, none⟩) 0 0, .slice a d.size cap]).run Try.prog (w.alloc (.cells #[] 34)) = .ok v w' ∧ CopiedTo w d v w') :=
    append_copy (P := Try.prog) Try.underlying22 hi hz0 hz1 hz2 w a cap d h hsz 34
  clear h hi hz0 hz1 hz2
  go_enter Try.func34, Try.ntmps34
  go_wp2_with (at_builtin; obtain ⟨v, w', hr, hc⟩ := hap.out; refine wpList_append_eq rfl _ _ _ rfl _ _ _ _ rfl rfl hr ?_; have HC : Aside _ := hc; clear hc hr)
  go_ret
  exact ⟨v, rfl, HC.out⟩
end Go.Proofs.Ytglgmkikegbchaa

/- spec.Same. -/
namespace Go.Proofs.Ytglgmkikegbchaa
open Go.RowKit Go.Sort

theorem same_step {d d' : Array It} {i : Nat} (_ : i < d.size) (_ : i < d'.size) (h : d[i]! ≠ d'[i]!) : decide (d = d') = false := decide_eq_false (fun e => h (by rw [e]))
theorem same_all {d d' : Array It} (hs : d.size = d'.size) (h : ∀ k, k < d.size → d[k]! = d'[k]!) : decide (d = d') = true := decide_eq_true (Array.ext hs (fun i h1 h2 => by
  have := h i h1
  rwa [getElem!_pos d i h1, getElem!_pos d' i h2] at this))

set_option maxHeartbeats 2000000 in
set_option maxRecDepth 1000000 in
theorem same_calls (a a' : Option Addr) (cap cap' : Nat) (d d' : Array It) (w : World) (h : Rd2 w a d) (h' : Rd2 w a' d') (hsz : d.size ≤ 2000) :
    Calls Try.prog 17 #[.slice a d.size cap, .slice a' d'.size cap'] w fun e w' => e = .returned (.bool (decide (d = d'))) ∧ ∃ q, w' = w.drewN q := by
  have H : Aside (Rd2 w a d) := h
  have H' : Aside (Rd2 w a' d') := h'
  clear h h'
  by_cases hs : d.size = d'.size
  case neg =>
    have hd : decide (d = d') = false := decide_eq_false (fun e => hs (by rw [e]))
    rw [hd]
    clear hd
    go_enter Try.func17, Try.ntmps17
    go_wp2
    go_ret
    exact ⟨rfl, 0, rfl⟩
  case pos =>
    have S' : Aside (d'.size = d.size) := hs.symm
    obtain ⟨n, hn⟩ : ∃ n, n = d.size := ⟨_, rfl⟩
    rw [← hs, ← hn]
    have N : Aside (n = d.size) := hn
    have hn2 : n ≤ 2000 := by omega
    obtain ⟨r, hr⟩ : ∃ r, r = decide (d = d') := ⟨_, rfl⟩
    rw [← hr]
    have R : Aside (r = decide (d = d')) := hr
    clear hs hn hr hsz
    go_enter Try.func17, Try.ntmps17
    go_wp2
    go_loopg [13] n (fun g v wr => ∃ (i q : Nat), v = .int .i64 i ∧ i ≤ n ∧ n - i ≤ g ∧ Aside (∀ k, k < i → d[k]! = d'[k]!) ∧ wr = w.drewN q)
    case atStart => exact ⟨0, 0, rfl, Nat.zero_le _, by omega, fun k hk => absurd hk (by omega), rfl⟩
    case round =>
      obtain ⟨i, q, rfl, hin, hg, HE, rfl⟩ := hrel
      by_cases hlt : i < n
      · have hltz : (i : Int) < (n : Int) := by omega
        have hN := N.out
        have hN' := S'.out
        obtain ⟨blk, off, rfl, _, hc⟩ := H.out (by omega)
        obtain ⟨blk', off', rfl, _, hc'⟩ := H'.out (by omega)
        obtain ⟨⟨x1, x2⟩, hx⟩ : ∃ x : It, x = d[i]! := ⟨_, rfl⟩
        obtain ⟨⟨y1, y2⟩, hy⟩ : ∃ y : It, y = d'[i]! := ⟨_, rfl⟩
        obtain ⟨c11, c12⟩ := hc i (by omega)
        obtain ⟨c21, c22⟩ := hc' i (by omega)
        rw [← hx] at c11 c12
        rw [← hy] at c21 c22
        dsimp only at c11 c12 c21 c22
        have q11 := fun k => (World.cell?_drewN w k ⟨blk, off + i * 2, none⟩).trans c11
        have q12 := fun k => (World.cell?_drewN w k ⟨blk, off + i * 2 + 1, none⟩).trans c12
        have q21 := fun k => (World.cell?_drewN w k ⟨blk', off' + i * 2, none⟩).trans c21
        have q22 := fun k => (World.cell?_drewN w k ⟨blk', off' + i * 2 + 1, none⟩).trans c22
        clear hc hc' c11 c12 c21 c22
        clear hN hN'
        by_cases he : (x1, x2) = (y1, y2)
        · obtain ⟨rfl, rfl⟩ := Prod.mk.inj he
          have E1 : Aside (d[i]! = d'[i]!) := hx.symm.trans hy
          clear hx hy he
          go_wp2_with fail
          go_quiet (fail)
          go_wp2_with fail
          go_roundg (n - (i + 1))
          case measure => omega
          case rel => exact ⟨i + 1, q + nq, by go_num, by omega, by omega, fun k hk => by rcases Nat.lt_or_ge k i with h | h; exact HE k h; rw [show k = i by omega]; exact E1, rfl⟩
        · have E1 : Aside (d[i]! ≠ d'[i]!) := by show _ ≠ _; rw [← hx, ← hy]; exact he
          by_cases e1 : x1 = y1
          · subst e1
            have e2 : ¬ x2 = y2 := fun e2 => he (by rw [e2])
            clear hx hy he
            go_wp2_with fail
            go_quiet (fail)
            go_wp2_with fail
            (try simp only [Exit.inBlock, Exit.then]); refine bodyPost_ret (results_tmp rfl _ _ _) rfl ?_
            exact ⟨by rw [R.out, same_step (i := i) (by have := N.out; omega) (by have := N.out; have := S'.out; omega) E1]; rfl, q + nq, by simp [World.drewN, Nat.add_assoc]⟩
          · clear hx hy he
            go_wp2_with fail
            go_quiet (fail)
            go_wp2_with fail
            (try simp only [Exit.inBlock, Exit.then]); refine bodyPost_ret (results_tmp rfl _ _ _) rfl ?_
            exact ⟨by rw [R.out, same_step (i := i) (by have := N.out; omega) (by have := N.out; have := S'.out; omega) E1]; rfl, q + nq, by simp [World.drewN, Nat.add_assoc]⟩
      · have hltz : ¬ (i : Int) < (n : Int) := by omega
        go_wp2_with fail
        go_ret
        exact ⟨by rw [R.out, same_all S'.out.symm (fun k hk => HE.out k (by have := N.out; omega))]; rfl, q, rfl⟩
end Go.Proofs.Ytglgmkikegbchaa

/- spec.Fits, spec.Is; an order in a box; numbers in a row. -/
namespace Go.Proofs.Ytglgmkikegbchaa
open Go.RowKit Go.Sort

/-- A slice of numbers that is read. -/
def RdN (w : World) (a : Option Addr) (d : Array Int) : Prop := 0 < d.size → ∃ blk off, a = some ⟨blk, off, none⟩ ∧ blk < w.heap.size ∧ ∀ i, i < d.size → w.cell? ⟨blk, off + i, none⟩ = some (.int .i64 d[i]!)
theorem RdN.below {B : Nat} {w w' : World} {a : Option Addr} {d : Array Int} (h : RdN w a d) (hb : Below B w w') (hB : w.heap.size ≤ B) : RdN w' a d := fun h0 => by
  obtain ⟨blk, off, e, hl, hc⟩ := h h0
  exact ⟨blk, off, e, Nat.lt_of_lt_of_le hl hb.size, fun i hi => (hb.cell (p := ⟨blk, off + i, none⟩) (Nat.lt_of_lt_of_le hl hB)).trans (hc i hi)⟩
/-- The same numbers wherever only new memory has come. -/
theorem RdN.keep {w w' : World} {a : Option Addr} {d : Array Int} (h : RdN w a d) (hb : Below w.heap.size w w') : RdN w' a d := h.below hb (Nat.le_refl _)
theorem Rd2.keep {w w' : World} {a : Option Addr} {d : Array It} (h : Rd2 w a d) (hb : Below w.heap.size w w') : Rd2 w' a d := h.below hb (Nat.le_refl _)
theorem Below.next {w w1 w2 : World} (h : Below w.heap.size w w1) (h2 : Below w1.heap.size w1 w2) : Below w.heap.size w w2 := h.trans (h2.mono h.size)

/-- An order in a box. -/
def BoxO (w : World) (b : Nat) (o : Ordr) : Prop := b < w.heap.size ∧ w.cell? ⟨b, 0, none⟩ = some (.int .i64 o.kind) ∧ w.cell? ⟨b, 1, none⟩ = some (.int .i64 o.shift) ∧ w.cell? ⟨b, 2, none⟩ = some (.int .u64 o.m0) ∧ w.cell? ⟨b, 3, none⟩ = some (.int .u64 o.m1) ∧ w.cell? ⟨b, 4, none⟩ = some (.int .u64 o.m2)
theorem BoxO.keep {w w' : World} {b : Nat} {o : Ordr} (h : BoxO w b o) (hb : Below w.heap.size w w') : BoxO w' b o := by
  obtain ⟨h0, k0, k1, k2, k3, k4⟩ := h
  exact ⟨Nat.lt_of_lt_of_le h0 hb.size, (hb.cell (by exact h0)).trans k0, (hb.cell (by exact h0)).trans k1, (hb.cell (by exact h0)).trans k2, (hb.cell (by exact h0)).trans k3, (hb.cell (by exact h0)).trans k4⟩
theorem boxO_new (w : World) (o : Ordr) (t : TypeId) : BoxO (w.alloc (.cells #[.int .i64 o.kind, .int .i64 o.shift, .int .u64 o.m0, .int .u64 o.m1, .int .u64 o.m2] t)) w.heap.size o := ⟨by simp, by simp [go_sem], by simp [go_sem], by simp [go_sem], by simp [go_sem], by simp [go_sem]⟩
theorem below_alloc (w : World) (x : Obj) : Below w.heap.size w (w.alloc x) := (Below.refl _ w).alloc (Nat.le_refl _) _
theorem below_drewN' {w w' : World} (h : Below w.heap.size w w') (n : Nat) : Below w.heap.size w (w'.drewN n) := below_drewN h n

def fitsB (n : Nat) (o : Ordr) : Bool := decide (n ≤ 2000) && decide (0 ≤ o.kind) && decide (o.kind ≤ 3) && decide (0 ≤ o.shift) && decide (o.shift < 64)

set_option maxHeartbeats 2000000 in
set_option maxRecDepth 1000000 in
theorem fits_calls (a : Option Addr) (cap n : Nat) (o : Ordr) (w : World) : Calls Try.prog 11 #[.slice a n cap, vOrd o] w fun e w' => e = .returned (.bool (fitsB n o)) ∧ Below w.heap.size w w' := by
  obtain ⟨k, s, m0, m1, m2⟩ := o
  show Calls _ _ _ _ fun e w' => e = .returned (.bool (decide (n ≤ 2000) && decide (0 ≤ k) && decide (k ≤ 3) && decide (0 ≤ s) && decide (s < 64))) ∧ Below w.heap.size w w'
  have hz : decide (n ≤ 2000) = decide ((n : Int) ≤ 2000) := decide_eq_decide.2 (by omega)
  rw [hz]
  clear hz
  have B := below_alloc w (.cells #[.int .i64 k, .int .i64 s, .int .u64 m0, .int .u64 m1, .int .u64 m2] 26)
  have B' : Aside (Below w.heap.size w (w.alloc (.cells #[.int .i64 k, .int .i64 s, .int .u64 m0, .int .u64 m1, .int .u64 m2] 26))) := B
  clear B
  by_cases h1 : (n : Int) ≤ 2000
  · by_cases h2 : 0 ≤ k
    · by_cases h3 : k ≤ 3
      · by_cases h4 : 0 ≤ s
        · have e1 : decide ((n : Int) ≤ 2000) = true := decide_eq_true h1
          have e2 : decide (0 ≤ k) = true := decide_eq_true h2
          have e3 : decide (k ≤ 3) = true := decide_eq_true h3
          have e4 : decide (0 ≤ s) = true := decide_eq_true h4
          rw [e1, e2, e3, e4]
          go_enter Try.func11, Try.ntmps11
          go_wp2
          go_ret
          exact ⟨rfl, B'.out⟩
        · have e1 : decide ((n : Int) ≤ 2000) = true := decide_eq_true h1
          have e2 : decide (0 ≤ k) = true := decide_eq_true h2
          have e3 : decide (k ≤ 3) = true := decide_eq_true h3
          have e4 : decide (0 ≤ s) = false := decide_eq_false h4
          rw [e1, e2, e3, e4]
          go_enter Try.func11, Try.ntmps11
          go_wp2
          go_ret
          exact ⟨rfl, B'.out⟩
      · have e1 : decide ((n : Int) ≤ 2000) = true := decide_eq_true h1
        have e2 : decide (0 ≤ k) = true := decide_eq_true h2
        have e3 : decide (k ≤ 3) = false := decide_eq_false h3
        rw [e1, e2, e3]
        go_enter Try.func11, Try.ntmps11
        go_wp2
        go_ret
        exact ⟨rfl, B'.out⟩
    · have e1 : decide ((n : Int) ≤ 2000) = true := decide_eq_true h1
      have e2 : decide (0 ≤ k) = false := decide_eq_false h2
      rw [e1, e2]
      go_enter Try.func11, Try.ntmps11
      go_wp2
      go_ret
      exact ⟨rfl, B'.out⟩
  · have e1 : decide ((n : Int) ≤ 2000) = false := decide_eq_false h1
    rw [e1]
    go_enter Try.func11, Try.ntmps11
    go_wp2
    go_ret
    exact ⟨rfl, B'.out⟩

theorem is_calls (o : Ordr) (w : World) : Calls Try.prog 15 #[vOrd o] w fun e w' => e = .returned (.bool (o.kind != 3)) ∧ Below w.heap.size w w' := by
  obtain ⟨k, s, m0, m1, m2⟩ := o
  have B' : Aside (Below w.heap.size w (w.alloc (.cells #[.int .i64 k, .int .i64 s, .int .u64 m0, .int .u64 m1, .int .u64 m2] 26))) := below_alloc w _
  go_enter Try.func15, Try.ntmps15
  go_wp2
  go_ret
  exact ⟨rfl, B'.out⟩
end Go.Proofs.Ytglgmkikegbchaa

/- The rows' frame: a law that answers true and changes nothing of old. -/
namespace Go.Proofs.Ytglgmkikegbchaa
open Go.ChangeShapes Go.WideShapes Go.ChangeAt Go.RowKit Go.Deep
set_option maxRecDepth 100000

theorem own : ownKnob Try.prog.godebug = none := by kernel_rfl
theorem kids : Kids Try.prog (· < Try.prog.types.size) := kids_rows (by kernel_rfl) (by kernel_rfl)
theorem full : ∀ t e, t < Try.prog.types.size → Try.prog.underlying t = some (.slice e) → 0 < Try.prog.cellsOf e := slices_full_of Try.prog (by kernel_rfl)

section
variable {H : Type} {enc : TypeId × Value → H}

theorem sameAt_below {W W' : World} (h : Below W.heap.size W W') : ∀ p : MemPlace, p.block < W.heap.size → W.sameAt W' p
  | .cell b _, hp => World.cell?_of_block (h.block b hp)
  | .map b, hp => h.block b hp

theorem trodAll_below {W W' : World} {sp : Nat → Bool} : ∀ {ts : List TypeId} {vs : List Value} {ds : List (DataW H)} {ps : List MemPlace}, DataW.TrodAll enc Try.prog W 0 sp true ts vs ds ps → (∀ p ∈ ps, W.sameAt W' p) → DataW.TrodAll enc Try.prog W' 0 sp true ts vs ds ps
  | [], [], [], _, h, _ => h
  | _ :: _, _ :: _, _ :: _, _, ⟨p, q, ⟨n, h1⟩, h2, e⟩, hs => ⟨p, q, ⟨n, DataW.trod_carry n _ _ _ h1 (fun x hx => hs x (by rw [e]; exact List.mem_append_left _ hx))⟩, trodAll_below h2 (fun x hx => hs x (by rw [e]; exact List.mem_append_right _ hx)), e⟩

theorem keptBut_below {W W' : World} (h : Below W.heap.size W W') (may : MemPlace → Prop) : W.keptBut W' may := ⟨h.os, h.output, fun i hi => by
  rw [h.block i hi]
  cases hb : W.heap[i]? with
  | none => rfl
  | some o => cases o <;> first | rfl | exact ⟨rfl, rfl, rfl, fun _ _ => rfl⟩ | exact Or.inr ⟨rfl, rfl⟩⟩

/-- What is asked behind a law that answers true. -/
theorem post_true {f : Func} {s : ChangeSpec} {W W' : World} {args : Array Value} {ds gs : List (DataW H)} {before : List MemPlace}
    (hW : DataW.Whole enc Try.prog f.params.toList s.vars false W args.toList ds gs before) (hv : s.vars = []) (hts : ∀ t ∈ f.params.toList, t < Try.prog.types.size) (hrt : f.resultTypes = #[4])
    (hfn : s.fn H ds = { results := [.lit (.bool true)], args := ds }) (hB : Below W.heap.size W W') :
    s.post enc Try.prog f false true false false W args (.bool true) W' := by
  obtain ⟨p, q, hA, hV, rfl, hz, hn⟩ := hW
  obtain ⟨nm, vs, fn⟩ := s
  obtain rfl : vs = [] := hv
  obtain ⟨rfl, rfl⟩ := trodVars_none hV
  have hlt := hA.lt
  have hA' : DataW.TrodAll enc Try.prog W' 0 (fun _ => true) true f.params.toList args.toList ds p := trodAll_below hA (fun x hx => sameAt_below hB x (hlt x hx))
  have hsz : f.resultTypes.size = 1 := by rw [hrt]; rfl
  have hR : ∀ (b : Nat) (sp : Nat → Bool) (hd : Bool), DataW.TrodAll enc Try.prog W' b sp hd f.resultTypes.toList ((Value.bool true).resultList f.resultTypes.size) [.lit (.bool true)] [] := fun b sp hd => by
    rw [hrt]
    exact trodAll_mk1 (shut_bool Try.underlying4 true)
  refine ⟨ds, [], p ++ [], [], p, [], ⟨p, [], hA, hV, rfl, hz, hn⟩, ?_, ?_, ?_, keptBut_below hB _, fun h => by cases h⟩
  · rw [List.append_nil, hfn]; exact hR _ _ _
  · rw [List.append_nil, hfn]; exact DataW.TrodAll.respare kids full hts hA' (fun x hx => by simpa using hlt x hx)
  · rw [List.append_nil, hfn]; rfl

/-- A list of elements, as an argument. -/
theorem open_items {W : World} {fuel : Nat} {a : Option Addr} {len cap : Nat} {x : DataW H × List MemPlace} (h : DataW.trod enc Try.prog W 0 (fun _ => true) true fuel 22 [.slice a len cap] = some x) :
    ∃ d : Array It, d.size = len ∧ Rd2 W a d ∧ (∀ i, i < len → -9223372036854775808 ≤ d[i]!.1 ∧ d[i]!.1 ≤ 9223372036854775807 ∧ -9223372036854775808 ≤ d[i]!.2 ∧ d[i]!.2 ≤ 9223372036854775807) ∧ len ≤ maxLen := by
  rcases open_slice_pairs Try.underlying22 Try.underlying34 (by kernel_rfl) rfl rfl (by kernel_rfl) (by kernel_rfl) h with ⟨hc, _⟩ | ⟨a', len', cap', m, n, V0, V1, D0, D1, P0, P1, hc, _, hl, hm, hmm, _, hall⟩
  · simp only [List.cons.injEq, and_true, Value.slice.injEq] at hc
    obtain ⟨rfl, rfl, rfl⟩ := hc
    exact ⟨#[], rfl, fun h => absurd h (by simp), fun i hi => absurd hi (by omega), by decide⟩
  · simp only [List.cons.injEq, and_true, Value.slice.injEq] at hc
    obtain ⟨rfl, rfl, rfl⟩ := hc
    simp only [if_true] at hmm
    subst hmm
    have hint : ∀ i, i < m → ∃ x y : Int, V0 i = .int .i64 x ∧ V1 i = .int .i64 y ∧ (Lit.int .i64 x).wf = true ∧ (Lit.int .i64 y).wf = true := fun i hi => by
      obtain ⟨x, h1, _, h3⟩ := DataW.trod_int Try.underlying2 (hall i hi).2.2.1
      obtain ⟨y, g1, _, g3⟩ := DataW.trod_int Try.underlying2 (hall i hi).2.2.2
      simp only [List.cons.injEq, and_true] at h1 g1
      exact ⟨x, y, h1, g1, h3, g3⟩
    let X : Nat → Int := fun i => if h : i < m then (hint i h).choose else 0
    let Y : Nat → Int := fun i => if h : i < m then (hint i h).choose_spec.choose else 0
    have hX : ∀ i, i < len → V0 i = .int .i64 (X i) ∧ V1 i = .int .i64 (Y i) ∧ (Lit.int .i64 (X i)).wf = true ∧ (Lit.int .i64 (Y i)).wf = true := fun i hi => by
      have hi' : i < m := by omega
      simp only [X, Y, dif_pos hi']
      exact (hint i hi').choose_spec.choose_spec
    let d : Array It := ((List.range len).map fun i => (X i, Y i)).toArray
    have hd : ∀ i, i < len → d[i]! = (X i, Y i) := fun i hi => by
      have : d[i]? = some (X i, Y i) := by simp [d, hi]
      rw [getElem!_def, this]
    refine ⟨d, by simp [d], fun h0 => ?_, fun i hi => ?_, by omega⟩
    · have h0' : 0 < len := by simpa [d] using h0
      obtain ⟨b, off, spot⟩ := a'
      have hspot : spot = none := by simpa [Addr.add] using World.cell?_spot (hall 0 (by omega)).1
      subst hspot
      refine ⟨b, off, rfl, ?_, fun i hi => ?_⟩
      · have := (hall 0 (by omega)).1
        exact World.block_lt_of_cell? _ _ this
      · have hi' : i < len := by simpa [d] using hi
        rw [hd i hi', ← (hX i hi').1, ← (hX i hi').2.1, Nat.add_assoc, ← Go.WideShapes.add_plain, ← Go.WideShapes.add_plain]
        exact ⟨(hall i (by omega)).1, (hall i (by omega)).2.1⟩
    · rw [hd i hi]
      have h1 := bounds_i64 (hX i hi).2.2.1
      have h2 := bounds_i64 (hX i hi).2.2.2
      exact ⟨h1.1, h1.2, h2.1, h2.2⟩

theorem open_i64 {w : World} {base : Nat} {t : TypeId} {v : Value} (ht : Try.prog.underlying t = some (.int .i64)) (h : Value.okWide Try.prog w .any base t v) : ∃ n, v = .int .i64 n ∧ -9223372036854775808 ≤ n ∧ n ≤ 9223372036854775807 := by
  simp only [Value.okWide, ht, Cell.okWide] at h
  cases v <;> simp_all [Cell.ok, IntKind.has, IntKind.min, IntKind.max, IntKind.signed, IntKind.bits]

theorem row_ok {w : World} {base : Nat} {t : TypeId} {v : Value} {fs : Array Field} {ts : List TypeId} (ht : Try.prog.underlying t = some (.struct fs)) (hts : Try.prog.cellTypes Try.prog.depth t = some ts) (hc : Try.prog.cellsOf t = ts.length) (h : Value.okWide Try.prog w .any base t v) :
    ∃ cs, v = .agg cs ∧ cs.size = ts.length ∧ ∀ (i : Nat) (v : Value) (u : TypeId), ts[i]? = some u → cs[i]? = some v → Cell.okWide Try.prog w .any base u v := by
  simp only [Value.okWide, ht] at h
  obtain ⟨cs, rfl, hs, ts', h1, _, h3⟩ := h
  rw [hts] at h1
  cases h1
  refine ⟨cs, rfl, hs.trans hc, fun i v u hu hv => ?_⟩
  obtain ⟨u', e, hk⟩ := h3 i v hv
  have hi : i < ts.length := (List.getElem?_eq_some_iff.1 hu).1
  rw [Nat.mod_eq_of_lt hi, hu] at e
  cases e
  exact hk

theorem cell_i64 {w : World} {base : Nat} {t : TypeId} {v : Value} (ht : Try.prog.underlying t = some (.int .i64)) (h : Cell.okWide Try.prog w .any base t v) : ∃ n, v = .int .i64 n ∧ -9223372036854775808 ≤ n ∧ n ≤ 9223372036854775807 := by
  simp only [ht, Cell.okWide] at h
  cases v <;> simp_all [Cell.ok, IntKind.has, IntKind.min, IntKind.max, IntKind.signed, IntKind.bits]
theorem cell_u64 {w : World} {base : Nat} {t : TypeId} {v : Value} (ht : Try.prog.underlying t = some (.int .u64)) (h : Cell.okWide Try.prog w .any base t v) : ∃ n, v = .int .u64 n ∧ 0 ≤ n ∧ n ≤ 18446744073709551615 := by
  simp only [ht, Cell.okWide] at h
  cases v <;> simp_all [Cell.ok, IntKind.has, IntKind.min, IntKind.max, IntKind.signed, IntKind.bits]

theorem open_order {w : World} {base : Nat} {v : Value} (h : Value.okWide Try.prog w .any base 26 v) : ∃ o : Ordr, v = vOrd o ∧ (-9223372036854775808 ≤ o.kind ∧ o.kind ≤ 9223372036854775807) ∧ (-9223372036854775808 ≤ o.shift ∧ o.shift ≤ 9223372036854775807) ∧ (0 ≤ o.m0 ∧ o.m0 ≤ 18446744073709551615) ∧ (0 ≤ o.m1 ∧ o.m1 ≤ 18446744073709551615) ∧ (0 ≤ o.m2 ∧ o.m2 ≤ 18446744073709551615) := by
  obtain ⟨cs, rfl, hz, hc⟩ := row_ok (ts := [3, 3, 23, 23, 23]) Try.underlying26 (by kernel_rfl) (by kernel_rfl) h
  obtain ⟨v0, v1, v2, v3, v4, rfl⟩ : ∃ v0 v1 v2 v3 v4, cs = #[v0, v1, v2, v3, v4] := by
    obtain ⟨l⟩ := cs
    match l, hz with
    | [v0, v1, v2, v3, v4], _ => exact ⟨v0, v1, v2, v3, v4, rfl⟩
  obtain ⟨k, rfl, hk⟩ := cell_i64 Try.underlying3 (hc 0 v0 _ rfl rfl)
  obtain ⟨s, rfl, hs⟩ := cell_i64 Try.underlying3 (hc 1 v1 _ rfl rfl)
  obtain ⟨m0, rfl, h0⟩ := cell_u64 Try.underlying23 (hc 2 v2 _ rfl rfl)
  obtain ⟨m1, rfl, h1⟩ := cell_u64 Try.underlying23 (hc 3 v3 _ rfl rfl)
  obtain ⟨m2, rfl, h2⟩ := cell_u64 Try.underlying23 (hc 4 v4 _ rfl rfl)
  exact ⟨⟨k, s, m0, m1, m2⟩, rfl, hk, hs, h0, h1, h2⟩

theorem open_item {w : World} {base : Nat} {v : Value} (h : Value.okWide Try.prog w .any base 34 v) : ∃ x : It, v = vIt x ∧ (-9223372036854775808 ≤ x.1 ∧ x.1 ≤ 9223372036854775807) ∧ (-9223372036854775808 ≤ x.2 ∧ x.2 ≤ 9223372036854775807) := by
  obtain ⟨cs, rfl, hz, hc⟩ := row_ok (ts := [2, 2]) Try.underlying34 (by kernel_rfl) (by kernel_rfl) h
  obtain ⟨v0, v1, rfl⟩ : ∃ v0 v1, cs = #[v0, v1] := by
    obtain ⟨l⟩ := cs
    match l, hz with
    | [v0, v1], _ => exact ⟨v0, v1, rfl⟩
  obtain ⟨k, rfl, hk⟩ := cell_i64 Try.underlying2 (hc 0 v0 _ rfl rfl)
  obtain ⟨s, rfl, hs⟩ := cell_i64 Try.underlying2 (hc 1 v1 _ rfl rfl)
  exact ⟨(k, s), rfl, hk, hs⟩
end
end Go.Proofs.Ytglgmkikegbchaa

/- A map that counts: 'many[x]++', 'many[x]--', and a range over it. -/
namespace Go.Proofs.Ytglgmkikegbchaa
open Go.RowKit Go.Maps Go.ChangeMaps
open Go.WideMaps (KeyLaw)

section
variable {κ : Type} {P : Program} {t k e : TypeId}

/-- Block b is a map that tells of each key how many. -/
def CM (mk : κ → Value) (ok : κ → Prop) (w : World) (b : Nat) (c : κ → Int) : Prop :=
  ∃ es clock, w.heap[b]? = some (.map es clock) ∧ MapKept.Stamped es clock ∧ (∀ x ∈ es.toList, ∃ y, ok y ∧ x.key = mk y ∧ x.val = .int .i64 (c y)) ∧ (∀ y, ok y → (∀ x ∈ es.toList, x.key ≠ mk y) → c y = 0)

variable {mk : κ → Value} {ok : κ → Prop} {w : World} {b : Nat} {c : κ → Int}

theorem CM.lt (h : CM mk ok w b c) : b < w.heap.size := by
  obtain ⟨es, clock, hb, _⟩ := h
  rcases Nat.lt_or_ge b w.heap.size with h | h
  · exact h
  · rw [Array.getElem?_eq_none h] at hb; cases hb
theorem CM.of_block {w' : World} (h : CM mk ok w b c) (hb : w'.heap[b]? = w.heap[b]?) : CM mk ok w' b c := by
  obtain ⟨es, clock, h1, r⟩ := h
  exact ⟨es, clock, hb.trans h1, r⟩
theorem cm_made (w : World) : CM mk ok (w.alloc (.map #[] 0)) w.heap.size (fun _ => 0) :=
  ⟨#[], 0, by have := heap_alloc_new w (.map #[] 0); exact this, MapKept.stamped_empty _, fun x h => by simp at h, fun _ _ _ => rfl⟩

theorem heap_setBlock {w : World} {b : Nat} {es es' : Array MapEntry} {c c' : Nat} (h : w.heap[b]? = some (.map es c)) : (setBlock w b (.map es' c')).heap[b]? = some (.map es' c') := heap_setBlock_same h _

/-- What one round of counting does: the look-up, the entry's place, the store, in whatever order the first two come. -/
theorem cm_step [DecidableEq κ] (K : Keyed P k) (ht : P.underlying t = some (.map k e)) (hz : ∀ u : World, (zeroValue e).run P u = .ok (.int .i64 0) u) (inj : ∀ x y, mk x = mk y → x = y) (hok : ∀ x, ok x → ∃ l, keyOf P k (mk x) = some l)
    (h : CM mk ok w b c) (x : κ) (hx : ok x) :
    ∃ (st : Nat) (w1 : World), (Instr.lookup t (.map (some b)) (mk x) false).run P w = .ok (.int .i64 (c x)) w ∧ (Instr.mapEntry t (.map (some b)) (mk x)).run P w = .ok (.tuple #[.int .i64 (c x), .int .i64 st]) w1 ∧
      (Instr.lookup t (.map (some b)) (mk x) false).run P w1 = .ok (.int .i64 (c x)) w1 ∧ w.grownBy w1 (some b) ∧ w1.heap.size = w.heap.size ∧
      ∀ n : Int, ∃ w2, (Instr.entryStore t (.map (some b)) (.int .i64 st) (.int .i64 n)).run P w1 = .ok () w2 ∧ CM mk ok w2 b (fun y => if y = x then n else c y) ∧ w.grownBy w2 (some b) ∧ w2.heap.size = w.heap.size := by
  obtain ⟨es, clock, hb, hS, hv, h0⟩ := h
  obtain ⟨s1, s2, s3⟩ := hS
  obtain ⟨kl, hkey⟩ := hok x hx
  have hkeys : ∀ y ∈ es.toList, ∃ l, keyOf P k y.key = some l := fun y hy => by
    obtain ⟨z, hz, e, _⟩ := hv y hy
    rw [e]
    exact hok z hz
  have gb : ∀ (es' : Array MapEntry) (c' : Nat), w.grownBy (setBlock w b (.map es' c')) (some b) := fun es' c' => ⟨rfl, rfl, rfl, by simp [setBlock], fun i _ hi => heap_setBlock_other hb _ (fun e => hi (by rw [e]))⟩
  rcases K.find w hkey es.toList hkeys with ⟨h1, h2⟩ | ⟨j, e0, h1, h2, h3⟩
  · have hcx : c x = 0 := h0 x hx h2
    obtain ⟨W1, hW1⟩ : ∃ W1, W1 = setBlock w b (.map (es.push ⟨mk x, .int .i64 0, clock⟩) (clock + 1)) := ⟨_, rfl⟩
    have hb1 : W1.heap[b]? = some (.map (es.push ⟨mk x, .int .i64 0, clock⟩) (clock + 1)) := by rw [hW1]; exact heap_setBlock hb
    have g1 : w.grownBy W1 (some b) := by rw [hW1]; exact gb _ _
    have z1 : W1.heap.size = w.heap.size := by rw [hW1]; simp [setBlock]
    have gc : ∀ (es' : Array MapEntry) (c' : Nat), w.grownBy (setBlock W1 b (.map es' c')) (some b) := fun es' c' => g1.trans ⟨rfl, rfl, rfl, by simp [setBlock], fun i _ hi => heap_setBlock_other hb1 _ (fun e => hi (by rw [e]))⟩
    refine ⟨clock, W1, ?_, ?_, ?_, g1, z1, fun n => ⟨setBlock W1 b (.map (es.push ⟨mk x, .int .i64 n, clock⟩) (clock + 1)), ?_, ?_, gc _ _, by rw [← z1]; simp [setBlock]⟩⟩
    · rw [hcx]
      simp [Instr.lookup, run_underlying ht, MapKept.run_getObj_map hb, K.check w _ hkey, h1, hz, Result.andThen]
    · rw [hcx]
      simp [Instr.mapEntry, run_underlying ht, MapKept.run_getObj_map hb, K.check w false hkey, h1, hz, MapKept.run_setObj_map _ hb, Result.andThen, goInt, hW1, setBlock]
    · rw [hcx]
      rcases K.find W1 hkey (es.push ⟨mk x, .int .i64 0, clock⟩).toList (fun y hy => by
          simp only [Array.toList_push, List.mem_append, List.mem_singleton] at hy
          rcases hy with hy | rfl
          · exact hkeys y hy
          · exact ⟨kl, hkey⟩) with ⟨_, g2⟩ | ⟨j, e0, g1, g2, g3⟩
      · exact absurd rfl (g2 ⟨mk x, .int .i64 0, clock⟩ (by simp))
      · have hm := List.mem_of_getElem? g2
        simp only [Array.toList_push, List.mem_append, List.mem_singleton] at hm
        rcases hm with hm | rfl
        · exact absurd g3 (h2 e0 hm)
        · simp only [Array.toList_push] at g1
          simp [Instr.lookup, run_underlying ht, MapKept.run_getObj_map hb1, K.check _ _ hkey, g1, Result.andThen]
    · have hidx : (es.push ⟨mk x, .int .i64 0, clock⟩).findIdx? (fun e => ((e.born : Nat) : Int) == ((clock : Nat) : Int)) = some es.size := by
        rw [WideElems.findIdx_arr]
        have := WideElems.findIdx_born (l := (es.push ⟨mk x, .int .i64 0, clock⟩).toList) (j := es.size) (e0 := ⟨mk x, .int .i64 0, clock⟩) (by
          simp only [Array.toList_push, List.map_append, List.map_cons, List.map_nil]
          refine List.nodup_append.2 ⟨s2, by simp, fun a ha c hc e1 => ?_⟩
          simp only [List.mem_singleton] at hc
          obtain ⟨x, hx, rfl⟩ := List.mem_map.1 ha
          have := s1 x hx
          omega) (by simp)
        exact this
      have hmod : (es.push ⟨mk x, .int .i64 0, clock⟩).modify es.size (fun e => { e with val := .int .i64 n }) = es.push ⟨mk x, .int .i64 n, clock⟩ := by
        apply Array.ext'
        rw [Array.toList_modify, Array.toList_push, Array.toList_push, ← Array.length_toList, WideElems.modify_last]
      simp [Instr.entryStore, MapKept.run_getObj_map hb1, asInt, asIntOf, hidx, hmod, MapKept.run_setObj_map _ hb1, Result.andThen, setBlock]
    · refine ⟨_, _, heap_setBlock hb1, ?_, fun y hy => ?_, fun y hy hn => ?_⟩
      · refine ⟨fun y hy => ?_, ?_, ?_⟩
        · simp only [Array.toList_push, List.mem_append, List.mem_singleton] at hy
          rcases hy with hy | rfl
          · have := s1 y hy; omega
          · show clock < clock + 1; omega
        · simp only [Array.toList_push, List.map_append, List.map_cons, List.map_nil]
          refine List.nodup_append.2 ⟨s2, by simp, fun a ha c hc e1 => ?_⟩
          simp only [List.mem_singleton] at hc
          obtain ⟨x, hx, rfl⟩ := List.mem_map.1 ha
          have := s1 x hx
          omega
        · simp only [Array.toList_push, List.map_append, List.map_cons, List.map_nil]
          refine List.nodup_append.2 ⟨s3, by simp, fun a ha c hc e1 => ?_⟩
          simp only [List.mem_singleton] at hc
          obtain ⟨y, hy, rfl⟩ := List.mem_map.1 ha
          exact h2 y hy (e1.trans hc)
      · simp only [Array.toList_push, List.mem_append, List.mem_singleton] at hy
        rcases hy with hy | rfl
        · obtain ⟨z, hz, e1, e2⟩ := hv y hy
          have hne : z ≠ x := fun e3 => h2 y hy (by rw [e1, e3])
          exact ⟨z, hz, e1, by rw [e2]; simp [hne]⟩
        · exact ⟨x, hx, rfl, by simp⟩
      · by_cases e1 : y = x
        · subst e1
          exact absurd rfl (hn ⟨mk y, .int .i64 n, clock⟩ (by simp))
        · simp only [e1, if_false]
          exact h0 y hy (fun z hz => hn z (by simp [hz]))
  · have hm0 : e0 ∈ es.toList := List.mem_of_getElem? h2
    obtain ⟨z, hzz, e1, e2⟩ := hv e0 hm0
    have hzx : z = x := inj _ _ (e1.symm.trans h3)
    subst hzx
    have hj : es[j]? = some e0 := by simpa using h2
    have hsame : es.modify j (fun e => { e with key := mk z }) = es := by
      apply Array.ext'
      rw [Array.toList_modify, modify_eq_set _ _ _ _ h2]
      have : ({ e0 with key := mk z } : MapEntry) = e0 := by rw [← h3]
      rw [this]
      exact WideElems.set_self _ _ _ h2
    obtain ⟨W1, hW1⟩ : ∃ W1, W1 = setBlock w b (.map es clock) := ⟨_, rfl⟩
    have hb1 : W1.heap[b]? = some (.map es clock) := by rw [hW1]; exact heap_setBlock hb
    have g1 : w.grownBy W1 (some b) := by rw [hW1]; exact gb _ _
    have z1 : W1.heap.size = w.heap.size := by rw [hW1]; simp [setBlock]
    have gc : ∀ (es' : Array MapEntry) (c' : Nat), w.grownBy (setBlock W1 b (.map es' c')) (some b) := fun es' c' => g1.trans ⟨rfl, rfl, rfl, by simp [setBlock], fun i _ hi => heap_setBlock_other hb1 _ (fun e => hi (by rw [e]))⟩
    refine ⟨e0.born, W1, ?_, ?_, ?_, g1, z1, fun n => ⟨setBlock W1 b (.map (es.modify j fun e' => { e' with val := .int .i64 n }) clock), ?_, ?_, gc _ _, by rw [← z1]; simp [setBlock]⟩⟩
    · simp [Instr.lookup, run_underlying ht, MapKept.run_getObj_map hb, K.check w _ hkey, h1, e2, Result.andThen]
    · simp [Instr.mapEntry, run_underlying ht, MapKept.run_getObj_map hb, K.check w false hkey, h1, hj, h3, K.stays w hkey, hsame, MapKept.run_setObj_map _ hb, Result.andThen, goInt, e2, hW1, setBlock]
    · rcases K.find W1 hkey es.toList hkeys with ⟨_, g2⟩ | ⟨j', e', g1, g2, g3⟩
      · exact absurd h3 (g2 e0 hm0)
      · obtain ⟨z', hz', f1, f2⟩ := hv e' (List.mem_of_getElem? g2)
        have : z' = z := inj _ _ (f1.symm.trans g3)
        subst this
        simp [Instr.lookup, run_underlying ht, MapKept.run_getObj_map hb1, K.check _ _ hkey, g1, f2, Result.andThen]
    · have hidx : es.findIdx? (fun e => ((e.born : Nat) : Int) == ((e0.born : Nat) : Int)) = some j := by
        rw [WideElems.findIdx_arr]
        exact WideElems.findIdx_born s2 h2
      simp [Instr.entryStore, MapKept.run_getObj_map hb1, asInt, asIntOf, hidx, MapKept.run_setObj_map _ hb1, Result.andThen, setBlock]
    · have hset : (es.modify j fun e' => { e' with val := .int .i64 n }).toList = es.toList.set j { e0 with val := .int .i64 n } := by
        rw [Array.toList_modify, modify_eq_set _ _ _ _ h2]
      have hmem : ∀ y ∈ es.toList.set j { e0 with val := Value.int .i64 n }, y = { e0 with val := .int .i64 n } ∨ (y ∈ es.toList ∧ y.key ≠ e0.key) := fun y hy => by
        obtain ⟨i, hi, hyi⟩ := List.getElem_of_mem hy
        rw [List.getElem_set] at hyi
        by_cases e : j = i
        · rw [if_pos e] at hyi; exact Or.inl hyi.symm
        · rw [if_neg e] at hyi
          refine Or.inr ⟨by rw [← hyi]; exact List.getElem_mem _, fun ek => e ?_⟩
          have hi' : i < es.toList.length := by simpa using hi
          obtain ⟨hjl, hje⟩ := List.getElem?_eq_some_iff.1 h2
          have a1 : (es.toList.map (·.key))[j]? = (es.toList.map (·.key))[i]? := by
            rw [List.getElem?_map, List.getElem?_map, h2, List.getElem?_eq_getElem hi', hyi]
            simp [ek]
          have nd : ∀ (i j : Nat), i < j → j < (es.toList.map (·.key)).length → (es.toList.map (·.key))[i]? ≠ (es.toList.map (·.key))[j]? := fun i j hij hj he => by
            have := List.pairwise_iff_getElem.1 s3 i j (by omega) hj hij
            rw [List.getElem?_eq_getElem (by omega), List.getElem?_eq_getElem hj] at he
            exact this (Option.some.inj he)
          rcases Nat.lt_trichotomy j i with h | h | h
          · exact absurd a1 (nd j i h (by simpa using hi'))
          · exact h
          · exact absurd a1.symm (nd i j h (by simpa using hjl))
      have hk : ∀ f : MapEntry → Value, (∀ v, f { e0 with val := v } = f e0) → (es.toList.set j { e0 with val := Value.int .i64 n }).map f = es.toList.map f := fun f hf => by
        rw [List.map_set, hf]
        exact WideElems.set_self _ _ _ (by rw [List.getElem?_map, h2]; rfl)
      refine ⟨_, _, heap_setBlock hb1, ?_, fun y hy => ?_, fun y hy hn => ?_⟩
      · unfold MapKept.Stamped
        rw [hset]
        refine ⟨fun y hy => ?_, ?_, ?_⟩
        · rcases hmem y hy with rfl | ⟨h, _⟩
          · exact s1 e0 hm0
          · exact s1 y h
        · rw [List.map_set]
          rw [WideElems.set_self _ _ _ (by rw [List.getElem?_map, h2]; rfl)]
          exact s2
        · rw [hk (·.key) (fun _ => rfl)]; exact s3
      · rw [hset] at hy
        rcases hmem y hy with rfl | ⟨h, hne⟩
        · exact ⟨z, hzz, h3, by simp⟩
        · obtain ⟨z', hz', f1, f2⟩ := hv y h
          have : z' ≠ z := fun e => hne (by rw [f1, e, ← h3])
          exact ⟨z', hz', f1, by rw [f2]; simp [this]⟩
      · rw [hset] at hn
        by_cases e3 : y = z
        · subst e3
          refine absurd h3 (hn { e0 with val := .int .i64 n } ?_)
          obtain ⟨hjl, _⟩ := List.getElem?_eq_some_iff.1 h2
          exact List.mem_iff_getElem.2 ⟨j, by simpa using hjl, by simp⟩
        · simp only [e3, if_false]
          refine h0 y hy (fun x' hx' ex => ?_)
          obtain ⟨i, hi, hxi⟩ := List.getElem_of_mem hx'
          by_cases e : j = i
          · subst e
            obtain ⟨hjl, hje⟩ := List.getElem?_eq_some_iff.1 h2
            rw [hje] at hxi
            rw [← hxi, h3] at ex
            exact e3 (inj _ _ ex).symm
          · exact hn x' (List.mem_iff_getElem.2 ⟨i, by simpa using hi, by rw [List.getElem_set, if_neg e]; exact hxi⟩) ex

/-- A range over a map of which every count is 0 is under way: how many entries are left. -/
def RZ (mk : κ → Value) (w : World) (b r g : Nat) : Prop :=
  ∃ es clock since seen c0, w.heap[b]? = some (.map es clock) ∧ (es.toList.map (·.born)).Nodup ∧ (∀ x ∈ es.toList, ∃ y, x.key = mk y ∧ x.val = .int .i64 0) ∧
    w.heap[r]? = some (.mapIter (some b) since seen c0) ∧ (∀ x ∈ es.toList, x.born < since) ∧ since ≤ c0 ∧ since ≤ clock ∧ (leftOf es seen).size = g

theorem rz_range (ht : P.underlying t = some (.map k e)) (h : CM mk ok w b c) (h0 : ∀ y, c y = 0) :
    ∃ w' g, (Instr.range t (.map (some b))).run P w = .ok (.pointer (some ⟨w.heap.size, 0, none⟩)) w' ∧ RZ mk w' b w.heap.size g ∧ Below w.heap.size w w' := by
  have hlt := h.lt
  obtain ⟨es, clock, hb, ⟨s1, s2, _⟩, hv, _⟩ := h
  refine ⟨_, _, run_range_map w t k e b es clock ht hb, ⟨es, clock, clock, #[], clock, ((MapKept.heap_alloc w _).2 b hlt).trans hb, s2, fun x hx => ?_, (MapKept.heap_alloc w _).1, s1, Nat.le_refl _, Nat.le_refl _, rfl⟩, below_alloc _ _⟩
  obtain ⟨y, _, e1, e2⟩ := hv x hx
  exact ⟨y, e1, by rw [e2, h0]⟩

theorem rz_next {r g : Nat} (h : RZ mk w b r g) (ty : TypeId) :
    (g = 0 ∧ (Instr.next (.pointer (some ⟨r, 0, none⟩)) false ty).run P w = .ok (.tuple #[.bool false]) w) ∨
    ∃ g' y w', g' < g ∧ (Instr.next (.pointer (some ⟨r, 0, none⟩)) false ty).run P w = .ok (.tuple #[.bool true, mk y, .int .i64 0]) w' ∧ RZ mk w' b r g' ∧
      (Instr.entry (.pointer (some ⟨r, 0, none⟩))).run P w' = .ok (.tuple #[mk y, .int .i64 0]) w' ∧ w.grownBy w' (some r) ∧ w'.heap.size = w.heap.size := by
  obtain ⟨es, clock, since, seen, c0, hb, hn, hv, hr, hold, hsc, hsk, hg⟩ := h
  have hne : r ≠ b := fun e => by rw [e, hb] at hr; cases hr
  rcases run_next_at (P := P) w ty r b since c0 seen es clock hr hb hold hsc with ⟨h0, hrun⟩ | ⟨x, hx, w1, hal, hrun⟩
  · exact Or.inl ⟨by omega, hrun⟩
  · obtain ⟨hem, _⟩ := mem_left hx
    obtain ⟨y, e1, e2⟩ := hv x hem
    have hr1 : w1.heap[r]? = some (.mapIter (some b) since seen c0) := by rcases hal with rfl | rfl <;> exact hr
    have hb1 : w1.heap[b]? = some (.map es clock) := by rcases hal with rfl | rfl <;> exact hb
    have hset := MapKept.heap_set (o' := .mapIter (some b) since (seen.push x.born) clock) hr1
    have hb' : (setBlock w1 r (.mapIter (some b) since (seen.push x.born) clock)).heap[b]? = some (.map es clock) := (hset.2 b (fun e1 => hne e1.symm)).trans hb1
    have hen := run_entry_at (P := P) _ r b since seen es clock x hset.1 hb' hem hn
    rw [e1, e2] at hrun hen
    refine Or.inr ⟨_, y, _, ?_, hrun, ⟨es, clock, since, seen.push x.born, clock, hb', hn, hv, hset.1, hold, hsk, hsk, rfl⟩, hen, ?_, ?_⟩
    · rw [← hg]; exact left_shrinks es seen x hx
    · rcases hal with rfl | rfl <;> exact ⟨rfl, rfl, rfl, by simp [setBlock], fun i _ hi => hset.2 i (fun e1 => hi (by rw [e1]))⟩
    · rcases hal with rfl | rfl <;> simp [setBlock]

theorem wpList_next_rz {ops : Array Oper} {rest : List Oper} {o : Oper} {a : Act} {Q : Exit → Act → World → Prop} {r g : Nat} (h : Aside (RZ mk w b r g)) (hg : o.guard = none) (it : Operand) (hop : o.op = Op.next it false) (hit : a.eval it = .pointer (some ⟨r, 0, none⟩))
    (hDone : wpList P ops Q rest (a.put o.dst (.tuple #[.bool false])) w)
    (hMore : ∀ (y : κ) (w' : World) (g' : Nat), g' < g → Aside (RZ mk w' b r g') → (Instr.entry (.pointer (some ⟨r, 0, none⟩))).run P w' = .ok (.tuple #[mk y, .int .i64 0]) w' → Aside (w.grownBy w' (some r)) → wpList P ops Q rest (a.put o.dst (.tuple #[.bool true, mk y, .int .i64 0])) w') :
    wpList P ops Q (o :: rest) a w := by
  refine wpList_plain hg fun K' hK' => ?_
  unfold Oper.wp
  rcases rz_next (P := P) h.out o.type with ⟨_, hrun⟩ | ⟨g', y, w', hlt, hrun, hrz, hen, hgr, _⟩
  · simp [execOp, hop, hit, hrun, Result.andThen]
    exact hK' _ _ hDone
  · simp [execOp, hop, hit, hrun, Result.andThen]
    exact hK' _ _ (hMore y w' g' hlt hrz hen hgr)

theorem wpList_range_cm {ops : Array Oper} {rest : List Oper} {o : Oper} {a : Act} {Q : Exit → Act → World → Prop} (ht : P.underlying t = some (.map k e)) (h : Aside (CM mk ok w b c)) (h0 : ∀ y, c y = 0) (hg : o.guard = none) (m : Operand) (hop : o.op = Op.range t m) (hm : a.eval m = .map (some b))
    (hK : ∀ (w' : World) (g : Nat), Aside (RZ mk w' b w.heap.size g) → Aside (Below w.heap.size w w') → wpList P ops Q rest (a.put o.dst (.pointer (some ⟨w.heap.size, 0, none⟩))) w') :
    wpList P ops Q (o :: rest) a w := by
  refine wpList_plain hg fun K' hK' => ?_
  obtain ⟨w', g, hrun, hrz, hb⟩ := rz_range (P := P) ht h.out h0
  unfold Oper.wp
  simp [execOp, hop, hm, hrun, Result.andThen]
  exact hK' _ _ (hK w' g hrz hb)
end
end Go.Proofs.Ytglgmkikegbchaa

/- bits.Len, out of the library's contracts, laid over this program. -/
namespace Go.Proofs.Ytglgmkikegbchaa
open Go.Shelf Go.Proofs
def lays125_ren : Go.Shelf.Ren := ⟨fun | 125 => 77 | 128 => 102 | 129 => 103 | n => n, fun | 46 => 114 | 3 => 3 | 51 => 141 | 53 => 23 | 4 => 4 | 5 => 5 | 9 => 9 | n => n, fun | n => n⟩
theorem lays125 : Go.Proofs.Lays.n125 Try.prog lays125_ren := {
  mixed := by kernel_rfl
  f125 := Try.func77.trans (congrArg some (by kernel_rfl))
  f128 := Try.func102.trans (congrArg some (by kernel_rfl))
  f129 := Try.func103.trans (congrArg some (by kernel_rfl))
  t3 := Try.underlying3
  a3 := Try.isAgg3
  z3 := Try.sizeOf3
  v3 := Try.zeroValue3
  t4 := Try.underlying4
  a4 := Try.isAgg4
  z4 := Try.sizeOf4
  v4 := Try.zeroValue4
  t5 := Try.underlying5
  a5 := Try.isAgg5
  z5 := Try.sizeOf5
  v5 := Try.zeroValue5
  t9 := Try.underlying9
  a9 := Try.isAgg9
  z9 := Try.sizeOf9
  v9 := Try.zeroValue9
  t46 := Try.underlying114
  a46 := Try.isAgg114
  z46 := Try.sizeOf114
  v46 := Try.zeroValue114
  t51 := Try.underlying141
  a51 := Try.isAgg141
  z51 := Try.sizeOf141
  v51 := Try.zeroValue141
  t53 := Try.underlying23
  a53 := Try.isAgg23
  z53 := Try.sizeOf23
  v53 := Try.zeroValue23 }
/-- bits.Len gives the number of bits. -/
theorem bits_Len (x : Int) (w : World) (h0 : 0 ≤ x) (h1 : x ≤ 18446744073709551615) :
    Calls Try.prog 77 #[.int .u64 x] w fun e w' => e = .returned (.int .i64 (Lib.bitLen x.toNat)) ∧ w' = w := Any.bits_Len lays125 x w h0 h1

end Go.Proofs.Ytglgmkikegbchaa

/- SortFunc of twelve elements or fewer. -/
namespace Go.Proofs.Ytglgmkikegbchaa
open Go.RowKit Go.Sort

set_option maxHeartbeats 2000000 in
set_option maxRecDepth 1000000 in
theorem pdqSmall_c (O : Value) (cf : It → It → Int) (hC : CmpC O cf) (w0 : World) (blk off cap n : Nat) (d : Array It) (w : World) (S : St2 w0 blk off d w) (hn : d.size = n) (hsz : n < 4611686018427387904) (a b : Nat) (limit : Int) (hab : a ≤ b) (hb : b ≤ n) (h12 : b - a ≤ 12) :
    Calls Try.prog 76 #[.slice (some ⟨blk, off, none⟩) n cap, .int .i64 a, .int .i64 b, .int .i64 limit, .func (.func 36) #[O] #[]] w fun e w' =>
      e = .returned (.tuple #[]) ∧ St2 w0 blk off (insertionSort (ltC cf) d a b) w' := by
  have hc := insertionSort_c O cf hC w0 blk off cap n d w S hn hsz a b hab hb
  have h12z : (b : Int) - (a : Int) ≤ 12 := by omega
  clear S hC
  go_enter Try.func76, Try.ntmps76
  go_wp2
  refine wp_loop_rounds 1 ?_
  rw [rounds_succ]
  go_wp2_with fail
  refine hc.mono ?_
  rintro e w' ⟨rfl, h⟩
  go_wp2_with fail
  (try simp only [Exit.inBlock, Exit.then]); refine bodyPost_ret (results_none rfl _ _ _) rfl ?_
  exact ⟨rfl, h⟩

set_option maxHeartbeats 2000000 in
set_option maxRecDepth 1000000 in
theorem sortFuncSmall_c (O : Value) (cf : It → It → Int) (hC : CmpC O cf) (w0 : World) (blk off cap n : Nat) (d : Array It) (w : World) (S : St2 w0 blk off d w) (hn : d.size = n) (h12 : n ≤ 12) :
    Calls Try.prog 35 #[.slice (some ⟨blk, off, none⟩) n cap, .func (.func 36) #[O] #[]] w fun e w' =>
      e = .returned (.tuple #[]) ∧ St2 w0 blk off (insertionSort (ltC cf) d 0 n) w' := by
  have hc := fun lim => pdqSmall_c O cf hC w0 blk off cap n d w S hn (by omega) 0 n lim (Nat.zero_le _) (Nat.le_refl _) (by omega)
  have hl := bits_Len (n : Int) w (by omega) (by omega)
  have hw : IntKind.u64.wrap (n : Int) = (n : Int) := by rw [IntKind.wrap_u64]; omega
  clear S hC
  go_enter Try.func35, Try.ntmps35
  go_wp2_with fail
  refine hl.mono ?_
  rintro e w' ⟨rfl, rfl⟩
  go_wp2_with fail
  refine (hc _).mono ?_
  rintro e w' ⟨rfl, h⟩
  go_wp2_with fail
  go_end0
  exact ⟨rfl, h⟩
end Go.Proofs.Ytglgmkikegbchaa

/- guarded; Whole by SortFunc, of twelve elements or fewer. -/
namespace Go.Proofs.Ytglgmkikegbchaa
open Go.RowKit Go.Sort

/-- guarded, of a function that returns: nothing was to be recovered. -/
theorem guarded_idle (p : Addr) (w : World) :
    CallsD Try.prog 33 #[.pointer (some p)] .returning w fun e u' w' => e = .returned (.tuple #[]) ∧ u' = .returning ∧ w' = w := by
  refine callsD_of_wpS Try.func33 rfl fun c₀ cs hu => ?_
  apply wpS_seq
  apply wpS_region
  simp [wpOpsS, go_sem, recoverD, hu, Try.ntmps33, Exit.thenS]
  refine wpS_cond (t := false) (by simp [Act.eval, Array.replicate]) ?_
  simp only [Bool.false_eq_true, if_false]
  refine wpS_of_wp (wp_skip ?_)
  cases c₀
  simp_all [bodyPostS, results, Try.results33]

theorem kept_cell {w w' : World} {row : Option Nat} (h : w.grownBy w' row) {p : Addr} (hp : p.block < w.heap.size) (hr : some p.block ≠ row) : w'.cell? p = w.cell? p := World.cell?_of_block (h.block _ hp hr)
theorem kept_frozen {w w' : World} {row : Option Nat} (h : w.grownBy w' row) {p : Addr} (hp : p.block < w.heap.size) (hr : some p.block ≠ row) : w'.frozen? p = w.frozen? p := World.frozen?_of_block (h.block _ hp hr)
theorem Holds2_of_block {w w' : World} {b off : Nat} {d : Array It} (h : w'.heap[b]? = w.heap[b]?) (H : Holds2 w b off d) : Holds2 w' b off d := fun i hi => by
  obtain ⟨a1, a2, a3, a4⟩ := H i hi
  exact ⟨(World.cell?_of_block h).trans a1, (World.cell?_of_block h).trans a2, (World.frozen?_of_block h).trans a3, (World.frozen?_of_block h).trans a4⟩
theorem below_grownBy {B : Nat} {w w1 w' : World} {b : Nat} (h : Below B w w1) (hg : w1.grownBy w' (some b)) (hB : B ≤ w1.heap.size) (hb : B ≤ b) : Below B w w' := h.grown hg hB (fun k e => by cases e; exact hb)

set_option maxHeartbeats 2000000 in
set_option maxRecDepth 1000000 in
theorem whole0_small (a : Option Addr) (cap : Nat) (d : Array It) (o : Ordr) (h0 : 0 ≤ o.shift) (h63 : o.shift < 64) (w : World) (h : Rd2 w a d) (h12 : d.size ≤ 12) :
    Calls Try.prog 13 #[.int .i64 0, .slice a d.size cap, vOrd o] w fun e w' => ∃ v, e = .returned (.tuple #[v, .bool true]) ∧ CopiedTo w (insertionSort (ltC (cfO o)) d 0 d.size) v w' := by
  have H : Aside (Rd2 w a d) := h
  clear h
  have HC := cmpC_of o h0 h63
  obtain ⟨k, s, m0, m1, m2⟩ := o
  have hmf : ∀ (fn : Fn) (first cap : Array Value) (w : World), (Instr.makeFunc fn first cap).run Try.prog w = .ok (.func fn first cap) w := fun _ _ _ _ => rfl
  go_enter_defers Try.func13, Try.ntmps13
  go_wp2_with fail
  refine (copied_calls a cap d _ (H.out.below (((Below.refl _ w).alloc (Nat.le_refl _) _).alloc (by simp) _) (Nat.le_refl _)) (by omega)).mono ?_
  rintro e w1 ⟨v, rfl, b, c2, rfl, hb1, hb2, hcap, hH, hbel⟩
  simp only [World.size_alloc] at hb1 hbel
  have B1 : Aside (Below w.heap.size w w1) := (((Below.refl _ w).alloc (Nat.le_refl _) _).alloc (by simp) _).trans (hbel.mono (by omega))
  have hsz1 : w.heap.size + 2 ≤ w1.heap.size := by have := hbel.size; simpa using this
  have k0 := hbel.cell (p := ⟨w.heap.size, 0, none⟩) (by dsimp only; omega)
  have k1 := hbel.cell (p := ⟨w.heap.size, 1, none⟩) (by dsimp only; omega)
  have k2 := hbel.cell (p := ⟨w.heap.size, 2, none⟩) (by dsimp only; omega)
  have k3 := hbel.cell (p := ⟨w.heap.size, 3, none⟩) (by dsimp only; omega)
  have k4 := hbel.cell (p := ⟨w.heap.size, 4, none⟩) (by dsimp only; omega)
  have ok1 := hbel.cell (p := ⟨w.heap.size + 1, 0, none⟩) (by dsimp only; omega)
  have fk1 := hbel.frozen (p := ⟨w.heap.size + 1, 0, none⟩) (by dsimp only; omega)
  simp at k0 k1 k2 k3 k4 ok1 fk1
  have S1 : Aside (St2 w1 b 0 d w1) := ⟨hH, hb2, World.grownBy.refl _ _⟩
  have C1 := fun S => sortFuncSmall_c (vOrd ⟨k, s, m0, m1, m2⟩) _ HC w1 b 0 c2 d.size d w1 S rfl h12
  clear hbel hH
  go_wp2_with fail
  refine (C1 S1.out).mono ?_
  rintro e w2 ⟨rfl, S2⟩
  have g2 := S2.grown
  have ok2 := (kept_cell g2 (p := ⟨w.heap.size + 1, 0, none⟩) (by dsimp only; omega) (by simp; omega)).trans ok1
  have fk2 := (kept_frozen g2 (p := ⟨w.heap.size + 1, 0, none⟩) (by dsimp only; omega) (by simp; omega)).trans fk1
  have B2 : Aside (Below w.heap.size w w2) := below_grownBy B1.out g2 (by omega) (by omega)
  have sz2 : w.heap.size + 2 ≤ w2.heap.size := Nat.le_trans hsz1 g2.size
  have R2 : Aside (St2 w1 b 0 (insertionSort (ltC (cfO ⟨k, s, m0, m1, m2⟩)) d 0 d.size) w2) := S2
  clear S2 g2 ok1 fk1 k0 k1 k2 k3 k4 C1 S1 B1
  go_wp2_with fail
  obtain ⟨W3, e3⟩ : ∃ W, W = w2.setCell ⟨w.heap.size + 1, 0, none⟩ (.bool true) := ⟨_, rfl⟩
  have q3 : W3.cell? ⟨w.heap.size + 1, 0, none⟩ = some (.bool true) := by rw [e3]; exact World.cell?_setCell_same _ _ _ ok2
  have B3 : Aside (Below w.heap.size w W3) := by show Below _ _ _; rw [e3]; exact B2.out.setCell (by simp) _
  have R3 : Aside (Holds2 W3 b 0 (insertionSort (ltC (cfO ⟨k, s, m0, m1, m2⟩)) d 0 d.size) ∧ b < W3.heap.size) := by
    show _ ∧ _
    rw [e3]
    exact ⟨Holds2_of_block (Below.heap_setCell _ _ _ _ (by dsimp only; omega)) R2.out.holds, by simp; exact R2.out.lt⟩
  rw [← e3]
  clear e3 R2 B2 ok2 fk2 sz2
  refine leaves_cons (f := 33) (args := #[.pointer (some ⟨w.heap.size + 1, 0, none⟩)]) (by simp) (by simp [go_sem]) ?_
  refine (guarded_idle _ _).mono ?_
  rintro e u' w'' ⟨rfl, rfl, rfl⟩
  simp [Leaves, settle, results, Try.results13, go_sem, q3]
  have hs : (insertionSort (ltC (cfO ⟨k, s, m0, m1, m2⟩)) d 0 d.size).size = d.size := (insertionSort_perm d 0 d.size (Nat.le_refl _)).1
  refine ⟨b, c2, by rw [hs], by omega, R3.out.2, by rw [hs]; exact hcap, R3.out.1, B3.out⟩
end Go.Proofs.Ytglgmkikegbchaa

/- spec.Permuted: true of two lists of which one is a permutation of the other. -/
namespace Go.Proofs.Ytglgmkikegbchaa
open Go.RowKit Go.Sort Go.Maps

def okIt (x : It) : Prop := (Lit.int .i64 x.1).wf = true ∧ (Lit.int .i64 x.2).wf = true
theorem laidOut : laidOutB Try.prog = true := by kernel_rfl
theorem lawIt : Keyed Try.prog 34 := Keyed.of_law (deep_law_laid laidOut (m := 2) (by omega) (of_decide_eq_true (by kernel_rfl)) (by kernel_rfl) (by kernel_rfl))
theorem vIt_inj (x y : It) (h : vIt x = vIt y) : x = y := by
  obtain ⟨a, b⟩ := x
  obtain ⟨c, d⟩ := y
  simp [vIt] at h
  exact Prod.ext h.1 h.2
theorem keyOf_it (x : It) (h : okIt x) : ∃ l, keyOf Try.prog 34 (vIt x) = some l := by
  obtain ⟨a, b⟩ := x
  obtain ⟨h1, h2⟩ := h
  dsimp only at h1 h2
  unfold keyOf
  simp only [Try.underlying34]
  rw [if_pos (by kernel_rfl)]
  obtain ⟨m, hm⟩ : ∃ m, Try.prog.types.size = m + 1 := ⟨Try.prog.types.size - 1, by kernel_rfl⟩
  rw [hm]
  unfold Program.keyLits
  simp only [Try.underlying34, Value.cells]
  rw [if_pos ⟨by kernel_rfl, by kernel_rfl⟩]
  have c1 : Try.prog.cellsOf 2 = 1 := by kernel_rfl
  have hne : (Try.prog.types.size == 1) = false := by kernel_rfl
  have hm0 : m ≠ 0 := fun h => by rw [hm, h] at hne; exact absurd hne (by decide)
  obtain ⟨n, rfl⟩ : ∃ n, m = n + 1 := ⟨m - 1, by omega⟩
  simp [c1, Program.keyLits, Try.underlying2, h1, h2]
theorem zeroInt (u : World) : (zeroValue 3).run Try.prog u = .ok (.int .i64 0) u := by kernel_rfl
def inR (d : Array It) : Prop := ∀ i, i < d.size → okIt d[i]!

/-- How often an element stands in a list. -/
def cntI (l : List It) (y : It) : Int := (l.count y : Nat)
theorem cntI_snoc (l : List It) (x y : It) : cntI (l ++ [x]) y = if y = x then cntI l x + 1 else cntI l y := by
  unfold cntI
  rw [List.count_append]
  by_cases e : y = x
  · subst e; simp
  · have e' : ¬ x = y := fun h => e h.symm
    simp [e, e']
theorem cntI_le (l : List It) (y : It) : 0 ≤ cntI l y ∧ cntI l y ≤ l.length := ⟨by unfold cntI; omega, by unfold cntI; have := List.count_le_length (a := y) (l := l); omega⟩
theorem take_snoc {d : Array It} {i : Nat} (hi : i < d.size) : d.toList.take (i + 1) = d.toList.take i ++ [d[i]!] := by
  rw [List.take_succ_eq_append_getElem (by simpa using hi), getElem!_pos d i hi]; rfl

theorem cntI_less (D l : List It) (x y : It) : cntI D y - cntI (l ++ [x]) y = if y = x then cntI D x - cntI l x - 1 else cntI D y - cntI l y := by
  rw [cntI_snoc]
  by_cases e : y = x
  · subst e; simp; omega
  · simp [e]

set_option maxHeartbeats 8000000 in
set_option maxRecDepth 1000000 in
theorem permuted_calls (a a' : Option Addr) (cap cap' n : Nat) (d d' : Array It) (w : World) (h : Rd2 w a d) (h' : Rd2 w a' d') (hn : d.size = n) (hsz : n ≤ 2000) (hr : inR d) (hp : d'.toList.Perm d.toList) :
    Calls Try.prog 14 #[.slice a n cap, .slice a' n cap'] w fun e w' => e = .returned (.bool true) ∧ Below w.heap.size w w' := by
  have hn' : d'.size = n := by have := hp.length_eq; simp at this; omega
  have hr' : inR d' := fun i hi => by
    have hm : d'[i]! ∈ d'.toList := by rw [getElem!_pos d' i hi]; simp
    obtain ⟨j, hj, e⟩ := List.mem_iff_getElem.1 (hp.mem_iff.1 hm)
    have hj' : j < d.size := by simpa using hj
    have := hr j hj'
    rw [getElem!_pos d j hj'] at this
    rw [← e]
    simpa using this
  have H : Aside (Rd2 w a d ∧ d.size = n ∧ inR d) := ⟨h, hn, hr⟩
  have H' : Aside (Rd2 w a' d' ∧ d'.size = n ∧ inR d') := ⟨h', hn', hr'⟩
  have HP : Aside (∀ y, cntI d.toList y - cntI d'.toList y = 0) := fun y => by unfold cntI; rw [hp.count_eq]; omega
  have mixed : Try.prog.follows .mixedOrders = true := by kernel_rfl
  have hmm := @run_makeMap Try.prog
  clear h h' hn hn' hr hr' hp
  go_enter Try.func14, Try.ntmps14
  have M0 : Aside (CM vIt okIt (w.alloc (.map #[] 0)) w.heap.size (cntI []) ∧ Below w.heap.size w (w.alloc (.map #[] 0))) := ⟨cm_made w, below_alloc _ _⟩
  go_wp2_with fail
  go_loopg [15] n (fun g vi wr => ∃ i : Nat, vi = .int .i64 i ∧ i ≤ n ∧ n - i ≤ g ∧ Aside (CM vIt okIt wr w.heap.size (cntI (d.toList.take i)) ∧ Below w.heap.size w wr))
  case atStart => exact ⟨0, rfl, Nat.zero_le _, by omega, M0⟩
  case round =>
    obtain ⟨i, rfl, hin, hg, HM⟩ := hrel
    by_cases hlt : i < n
    · have hltz : (i : Int) < (n : Int) := by omega
      obtain ⟨blk, off, rfl, hbl, hc⟩ := H.out.1 (by rw [H.out.2.1]; omega)
      obtain ⟨⟨x1, x2⟩, hx⟩ : ∃ x : It, x = d[i]! := ⟨_, rfl⟩
      obtain ⟨c1, c2⟩ := hc i (by rw [H.out.2.1]; omega)
      rw [← hx] at c1 c2
      dsimp only at c1 c2
      have q1 := (HM.out.2.cell (p := ⟨blk, off + i * 2, none⟩) hbl).trans c1
      have q2 := (HM.out.2.cell (p := ⟨blk, off + i * 2 + 1, none⟩) hbl).trans c2
      obtain ⟨V, hV⟩ : ∃ V, V = (wr.alloc (.cells #[.int .i64 x1, .int .i64 x2] 34)).drew := ⟨_, rfl⟩
      have hlt2 := HM.out.1.lt
      have hVb : ∀ j, j < wr.heap.size → V.heap[j]? = wr.heap[j]? := fun j hj => by rw [hV]; exact heap_alloc_old _ _ hj
      have CV : CM vIt okIt V w.heap.size (cntI (d.toList.take i)) := HM.out.1.of_block (hVb _ hlt2)
      have okx : okIt (x1, x2) := by rw [hx]; exact H.out.2.2 i (by rw [H.out.2.1]; omega)
      obtain ⟨st, V1, l1, me, l2, g1, z1, hs⟩ := cm_step lawIt Try.underlying74 zeroInt vIt_inj keyOf_it CV (x1, x2) okx
      obtain ⟨V2, es, CV2, g2, z2⟩ := hs (cntI (d.toList.take i) (x1, x2) + 1)
      have hcl := cntI_le (d.toList.take i) (x1, x2)
      have hll : (d.toList.take i).length ≤ 2000 := by rw [List.length_take]; omega
      obtain ⟨C, hC⟩ : ∃ C, C = cntI (d.toList.take i) (x1, x2) := ⟨_, rfl⟩
      rw [← hC] at l1 me l2 es hcl
      have hw1 : IntKind.i64.wrap (C + 1) = C + 1 := by rw [IntKind.wrap_i64]; omega
      have szV : V.heap.size = wr.heap.size + 1 := by rw [hV]; simp
      have t7 : V.cell? ⟨wr.heap.size, 0, none⟩ = some (.int .i64 x1) := by rw [hV]; simp [go_sem]
      have t7' : V.cell? ⟨wr.heap.size, 1, none⟩ = some (.int .i64 x2) := by rw [hV]; simp [go_sem]
      have t8 := (kept_cell g1 (p := ⟨wr.heap.size, 0, none⟩) (by dsimp only; omega) (by simp; omega)).trans t7
      have t8' := (kept_cell g1 (p := ⟨wr.heap.size, 1, none⟩) (by dsimp only; omega) (by simp; omega)).trans t7'
      have HN : Aside (CM vIt okIt V2 w.heap.size (cntI (d.toList.take (i + 1))) ∧ Below w.heap.size w V2) := by
        refine ⟨?_, ?_⟩
        · rw [take_snoc (by rw [H.out.2.1]; omega), ← hx, show cntI (d.toList.take i ++ [(x1, x2)]) = fun y => if y = (x1, x2) then cntI (d.toList.take i) (x1, x2) + 1 else cntI (d.toList.take i) y from funext (fun y => cntI_snoc _ _ _)]
          exact CV2
        · have b1 : Below w.heap.size w V := by rw [hV]; exact (HM.out.2.alloc (by omega) _).drew
          exact b1.grown g2 (by omega) (fun k ek => by cases ek; exact Nat.le_refl _)
      dsimp only [vIt] at l1 me l2
      clear hc c1 c2 hx hbl HM CV okx hs CV2 g1 g2 z1 z2 hcl hll hC hVb hlt2 szV
      rw [hV] at l1 me t7 t7'
      go_wp2_with fail
      go_region
      all_goals
        go_wp2_with fail
        go_roundg (n - (i + 1))
        case measure => omega
        case rel => exact ⟨i + 1, by go_num, by omega, by omega, HN⟩
    · have hltz : ¬ (i : Int) < (n : Int) := by omega
      have e0 : i = n := by omega
      subst e0
      have M1 : Aside (CM vIt okIt wr w.heap.size (fun y => cntI d.toList y - cntI (d'.toList.take 0) y) ∧ Below w.heap.size w wr) := by
        refine ⟨?_, HM.out.2⟩
        have h1 := HM.out.1
        rw [show d.toList.take i = d.toList by rw [← H.out.2.1, ← Array.length_toList, List.take_length]] at h1
        rw [show (fun y => cntI d.toList y - cntI (d'.toList.take 0) y) = cntI d.toList from funext (fun y => by simp [cntI])]
        exact h1
      clear HM
      go_wp2_with fail
      go_loopg [28] i (fun g vi wr => ∃ j : Nat, vi = .int .i64 j ∧ j ≤ i ∧ i - j ≤ g ∧ Aside (CM vIt okIt wr w.heap.size (fun y => cntI d.toList y - cntI (d'.toList.take j) y) ∧ Below w.heap.size w wr))
      case atStart => exact ⟨0, rfl, Nat.zero_le _, by omega, M1⟩
      case round =>
        obtain ⟨n, hnn⟩ : ∃ n, n = i := ⟨_, rfl⟩
        subst hnn
        obtain ⟨i, rfl, hin, hg, HM⟩ := hrel
        by_cases hlt : i < n
        · have hltz : (i : Int) < (n : Int) := by omega
          obtain ⟨blk, off, rfl, hbl, hc⟩ := H'.out.1 (by rw [H'.out.2.1]; omega)
          obtain ⟨⟨x1, x2⟩, hx⟩ : ∃ x : It, x = d'[i]! := ⟨_, rfl⟩
          obtain ⟨c1, c2⟩ := hc i (by rw [H'.out.2.1]; omega)
          rw [← hx] at c1 c2
          dsimp only at c1 c2
          have q1 := (HM.out.2.cell (p := ⟨blk, off + i * 2, none⟩) hbl).trans c1
          have q2 := (HM.out.2.cell (p := ⟨blk, off + i * 2 + 1, none⟩) hbl).trans c2
          obtain ⟨V, hV⟩ : ∃ V, V = (wr.alloc (.cells #[.int .i64 x1, .int .i64 x2] 34)).drew := ⟨_, rfl⟩
          have hlt2 := HM.out.1.lt
          have hVb : ∀ j, j < wr.heap.size → V.heap[j]? = wr.heap[j]? := fun j hj => by rw [hV]; exact heap_alloc_old _ _ hj
          have CV : CM vIt okIt V w.heap.size (fun y => cntI d.toList y - cntI (d'.toList.take i) y) := HM.out.1.of_block (hVb _ hlt2)
          have okx : okIt (x1, x2) := by rw [hx]; exact H'.out.2.2 i (by rw [H'.out.2.1]; omega)
          obtain ⟨st, V1, l1, me, l2, g1, z1, hs⟩ := cm_step lawIt Try.underlying74 zeroInt vIt_inj keyOf_it CV (x1, x2) okx
          obtain ⟨V2, es, CV2, g2, z2⟩ := hs (cntI d.toList (x1, x2) - cntI (d'.toList.take i) (x1, x2) - 1)
          have hcl := cntI_le (d'.toList.take i) (x1, x2)
          have hcm := cntI_le d.toList (x1, x2)
          have hld : d.toList.length ≤ 2000 := by rw [Array.length_toList, H.out.2.1]; omega
          have hll : (d'.toList.take i).length ≤ 2000 := by rw [List.length_take]; omega
          obtain ⟨C, hC⟩ : ∃ C, C = cntI d.toList (x1, x2) - cntI (d'.toList.take i) (x1, x2) := ⟨_, rfl⟩
          have hcn : -2000 ≤ C ∧ C ≤ 2000 := by omega
          try dsimp only at l1 me l2 es
          rw [← hC] at l1 me l2 es
          have hw1 : IntKind.i64.wrap (C - 1) = C - 1 := by rw [IntKind.wrap_i64]; omega
          have szV : V.heap.size = wr.heap.size + 1 := by rw [hV]; simp
          have t7 : V.cell? ⟨wr.heap.size, 0, none⟩ = some (.int .i64 x1) := by rw [hV]; simp [go_sem]
          have t7' : V.cell? ⟨wr.heap.size, 1, none⟩ = some (.int .i64 x2) := by rw [hV]; simp [go_sem]
          have t8 := (kept_cell g1 (p := ⟨wr.heap.size, 0, none⟩) (by dsimp only; omega) (by simp; omega)).trans t7
          have t8' := (kept_cell g1 (p := ⟨wr.heap.size, 1, none⟩) (by dsimp only; omega) (by simp; omega)).trans t7'
          have HN : Aside (CM vIt okIt V2 w.heap.size (fun y => cntI d.toList y - cntI (d'.toList.take (i + 1)) y) ∧ Below w.heap.size w V2) := by
            refine ⟨?_, ?_⟩
            · rw [take_snoc (by rw [H'.out.2.1]; omega), ← hx, show (fun y => cntI d.toList y - cntI (d'.toList.take i ++ [(x1, x2)]) y) = fun y => if y = (x1, x2) then cntI d.toList (x1, x2) - cntI (d'.toList.take i) (x1, x2) - 1 else cntI d.toList y - cntI (d'.toList.take i) y from funext (fun y => cntI_less _ _ _ _)]
              exact CV2
            · have b1 : Below w.heap.size w V := by rw [hV]; exact (HM.out.2.alloc (by omega) _).drew
              exact b1.grown g2 (by omega) (fun k ek => by cases ek; exact Nat.le_refl _)
          dsimp only [vIt] at l1 me l2
          clear hcm hld hcn hc c1 c2 hx hbl HM CV okx hs CV2 g1 g2 z1 z2 hcl hll hC hVb hlt2 szV
          rw [hV] at l1 me t7 t7'
          go_wp2_with fail
          go_region
          all_goals
            go_wp2_with fail
            go_roundg (n - (i + 1))
            case measure => omega
            case rel => exact ⟨i + 1, by go_num, by omega, by omega, HN⟩
        · have hltz : ¬ (i : Int) < (n : Int) := by omega
          have e0 : i = n := by omega
          subst e0
          have M2 : Aside (CM vIt okIt wr w.heap.size (fun y => cntI d.toList y - cntI (d'.toList.take i) y)) := HM.out.1
          have B2 : Aside (Below w.heap.size w wr ∧ w.heap.size ≤ wr.heap.size) := ⟨HM.out.2, HM.out.2.size⟩
          have Z2 : ∀ y, cntI d.toList y - cntI (d'.toList.take i) y = 0 := fun y => by
            rw [show d'.toList.take i = d'.toList by rw [← H'.out.2.1, ← Array.length_toList, List.take_length]]
            exact HP.out y
          have Z3 : Aside _ := Z2
          clear HM Z2
          go_wp2_with (refine wpList_range_cm Try.underlying74 M2 Z3.out rfl _ rfl rfl ?_; intro w' g RZ0 BZ)
          obtain ⟨r, hr⟩ : ∃ r, r = wr.heap.size := ⟨_, rfl⟩
          rw [← hr] at RZ0 ⊢
          have B3 : Aside (Below w.heap.size w w' ∧ w.heap.size ≤ w'.heap.size ∧ w.heap.size ≤ r) := ⟨Below.next B2.out.1 BZ.out, (Below.next B2.out.1 BZ.out).size, by rw [hr]; exact B2.out.2⟩
          clear hr M2 B2 Z3 BZ
          go_loopg [11] g (fun gg _ wr => ∃ q : Nat, q ≤ gg ∧ Aside (RZ vIt wr w.heap.size r q ∧ Below w.heap.size w wr ∧ w.heap.size ≤ wr.heap.size))
          case atStart => exact ⟨g, Nat.le_refl _, RZ0.out, B3.out.1, B3.out.2.1⟩
          case round =>
            obtain ⟨q, hq, HR⟩ := hrel
            have R1 : Aside (RZ vIt wr w.heap.size r q) := HR.out.1
            go_wp2_with (refine wpList_next_rz R1 rfl _ rfl rfl ?_ (fun y w2 q' hlt R2 hen hgr => ?_))
            · go_ret
              exact ⟨rfl, HR.out.2.1⟩
            · have NR : Aside (RZ vIt w2 w.heap.size r q' ∧ Below w.heap.size w w2 ∧ w.heap.size ≤ w2.heap.size) := ⟨R2.out, HR.out.2.1.grown hgr.out HR.out.2.2 (fun k ek => by cases ek; exact B3.out.2.2), Nat.le_trans HR.out.2.2 hgr.out.size⟩
              clear R1 R2 HR hgr
              go_wp2_with fail
              go_roundg q'
              case measure => omega
              case rel => exact ⟨q', Nat.le_refl _, NR⟩
end Go.Proofs.Ytglgmkikegbchaa

/- works: three elements, sorted. -/
namespace Go.Proofs.Ytglgmkikegbchaa
open Go.RowKit Go.Sort

def three : Array It := #[(3, 0), (1, 1), (2, 2)]
def up0 : Ordr := ⟨0, 0, 0, 0, 0⟩
theorem three_sorted : insertionSort (ltC (cfO up0)) three 0 three.size = #[(1, 1), (2, 2), (3, 0)] := by decide +kernel

set_option maxHeartbeats 2000000 in
set_option maxRecDepth 1000000 in
theorem works_calls (w : World) : Calls Try.prog 12 #[] w fun e w' => e = .returned (.bool true) ∧ Below w.heap.size w w' := by
  go_enter Try.func12, Try.ntmps12
  go_wp2_with fail
  obtain ⟨W, hW⟩ : ∃ W, W = w.alloc (Obj.cells #[.int .i64 3, .int .i64 0, .int .i64 1, .int .i64 1, .int .i64 2, .int .i64 2] 34) := ⟨_, rfl⟩
  rw [← hW]
  have B0 : Below w.heap.size w W := by rw [hW]; exact (Below.refl _ w).alloc (Nat.le_refl _) _
  have hsz : W.heap.size = w.heap.size + 1 := by rw [hW]; simp
  have c0 : W.cell? ⟨w.heap.size, 0, none⟩ = some (.int .i64 3) := by rw [hW]; simp [go_sem]
  have c1 : W.cell? ⟨w.heap.size, 1, none⟩ = some (.int .i64 0) := by rw [hW]; simp [go_sem]
  have c2 : W.cell? ⟨w.heap.size, 2, none⟩ = some (.int .i64 1) := by rw [hW]; simp [go_sem]
  have c3 : W.cell? ⟨w.heap.size, 3, none⟩ = some (.int .i64 1) := by rw [hW]; simp [go_sem]
  have c4 : W.cell? ⟨w.heap.size, 4, none⟩ = some (.int .i64 2) := by rw [hW]; simp [go_sem]
  have c5 : W.cell? ⟨w.heap.size, 5, none⟩ = some (.int .i64 2) := by rw [hW]; simp [go_sem]
  have R : Rd2 W (some ⟨w.heap.size, 0, none⟩) three := fun _ => ⟨_, _, rfl, by omega, fun i hi => by
    have h3 : i < 3 := hi
    rcases (show i = 0 ∨ i = 1 ∨ i = 2 by omega) with rfl | rfl | rfl
    · exact ⟨c0, c1⟩
    · exact ⟨c2, c3⟩
    · exact ⟨c4, c5⟩⟩
  clear hW
  refine (whole0_small (some ⟨w.heap.size, 0, none⟩) 3 three up0 (by decide) (by decide) W R (by decide)).mono ?_
  rintro e w1 ⟨v, rfl, b, cp, rfl, hb1, hb2, hcap, hH, hbel⟩
  rw [three_sorted] at hH
  rw [three_sorted] at hcap
  rw [three_sorted]
  have k0 := (hbel.cell (p := ⟨w.heap.size, 0, none⟩) (by dsimp only; omega)).trans c0
  have k1 := (hbel.cell (p := ⟨w.heap.size, 1, none⟩) (by dsimp only; omega)).trans c1
  have k2 := (hbel.cell (p := ⟨w.heap.size, 2, none⟩) (by dsimp only; omega)).trans c2
  have k3 := (hbel.cell (p := ⟨w.heap.size, 3, none⟩) (by dsimp only; omega)).trans c3
  have k4 := (hbel.cell (p := ⟨w.heap.size, 4, none⟩) (by dsimp only; omega)).trans c4
  have k5 := (hbel.cell (p := ⟨w.heap.size, 5, none⟩) (by dsimp only; omega)).trans c5
  have B1 : Aside (Below w.heap.size w w1) := B0.trans (hbel.mono (by omega))
  have R1 : Aside (∀ W', w1.heap.size ≤ W'.heap.size → Below w1.heap.size w1 W' → Rd2 W' (some ⟨b, 0, none⟩) #[(1, 1), (2, 2), (3, 0)]) := fun W' _ hB _ =>
    ⟨_, _, rfl, by have := hB.size; omega, fun i hi => ⟨(hB.cell (p := ⟨b, 0 + i * 2, none⟩) hb2).trans (hH i hi).1, (hB.cell (p := ⟨b, 0 + i * 2 + 1, none⟩) hb2).trans (hH i hi).2.1⟩⟩
  clear c0 c1 c2 c3 c4 c5 R hH hbel hb1 hb2 B0 hsz
  go_wp2_with fail
  have mixed : Try.prog.follows .mixedOrders = true := by kernel_rfl
  obtain ⟨V, hV⟩ : ∃ V, V = (w1.alloc (Obj.cells #[.int .i64 1, .int .i64 1, .int .i64 2, .int .i64 2, .int .i64 3, .int .i64 0] 34)).drew := ⟨_, rfl⟩
  have BV : Below w1.heap.size w1 V := by rw [hV]; exact ((Below.refl _ w1).alloc (Nat.le_refl _) _).drew
  have RV : Rd2 V (some ⟨w1.heap.size, 0, none⟩) #[(1, 1), (2, 2), (3, 0)] := fun _ => ⟨_, _, rfl, by rw [hV]; simp, fun i hi => by
    have h3 : i < 3 := hi
    rw [hV]
    rcases (show i = 0 ∨ i = 1 ∨ i = 2 by omega) with rfl | rfl | rfl
    · exact ⟨by simp [go_sem], by simp [go_sem]⟩
    · exact ⟨by simp [go_sem], by simp [go_sem]⟩
    · exact ⟨by simp [go_sem], by simp [go_sem]⟩⟩
  have SV := same_calls (some ⟨b, 0, none⟩) (some ⟨w1.heap.size, 0, none⟩) cp 3 #[(1, 1), (2, 2), (3, 0)] #[(1, 1), (2, 2), (3, 0)] V (R1.out V BV.size BV) RV (by decide)
  have B2 : Aside (∀ q, Below w.heap.size w (V.drewN q)) := fun q => below_drewN (B1.out.trans (BV.mono B1.out.size)) q
  rw [hV] at SV B2
  clear hV BV RV R1 B1
  go_region_held (fun w' => w'.cell? ⟨w.heap.size, 0, none⟩ = some (.int .i64 3) ∧ w'.cell? ⟨w.heap.size, 1, none⟩ = some (.int .i64 0) ∧ w'.cell? ⟨w.heap.size, 2, none⟩ = some (.int .i64 1) ∧ w'.cell? ⟨w.heap.size, 3, none⟩ = some (.int .i64 1) ∧ w'.cell? ⟨w.heap.size, 4, none⟩ = some (.int .i64 2) ∧ w'.cell? ⟨w.heap.size, 5, none⟩ = some (.int .i64 2)) (go_keep) (first | (go_at_call 17; refine SV.mono ?_; rintro e w' ⟨rfl, q, rfl⟩))
  go_wp2_with fail
  go_ret
  exact ⟨rfl, by have h := B2.out q; simpa [World.drewN, World.drew, Nat.add_assoc] using h⟩
end Go.Proofs.Ytglgmkikegbchaa

/- The specification's comparing: less tells what the program's orders tell; Ascends, Falls. -/
namespace Go.Proofs.Ytglgmkikegbchaa
open Go.RowKit Go.Sort

theorem scompare_calls (a b : Int) (w : World) : Calls Try.prog 114 #[.int .i64 a, .int .i64 b] w fun e w' => e = .returned (.int .i64 (sg a b)) ∧ w' = w := by
  unfold sg
  by_cases h : a < b
  · rw [if_pos h]
    go_enter Try.func114, Try.ntmps114
    go_wp2
    go_ret
    exact ⟨rfl, rfl⟩
  · rw [if_neg h]
    by_cases h2 : b < a
    · rw [if_pos h2]
      go_enter Try.func114, Try.ntmps114
      go_wp2
      go_ret
      exact ⟨rfl, rfl⟩
    · rw [if_neg h2]
      go_enter Try.func114, Try.ntmps114
      go_wp2
      go_ret
      exact ⟨rfl, rfl⟩

set_option maxHeartbeats 2000000 in
set_option maxRecDepth 1000000 in
theorem scmp_up (o : Ordr) (hk1 : o.kind ≠ 1) (hk2 : o.kind ≠ 2) (hk3 : o.kind ≠ 3) (x y : It) (W : World) : Calls Try.prog 82 #[vOrd o, vIt x, vIt y] W fun e w' => e = .returned (.int .i64 (sg x.1 y.1)) ∧ Below W.heap.size W w' := by
  obtain ⟨k, s, m0, m1, m2⟩ := o
  obtain ⟨x1, x2⟩ := x
  obtain ⟨y1, y2⟩ := y
  dsimp only at hk1 hk2 hk3
  have a1 : (k == 1) = false := by simpa using hk1
  have a2 : (k == 2) = false := by simpa using hk2
  have a3 : (k == 3) = false := by simpa using hk3
  clear hk1 hk2 hk3
  have B0 : Aside (Below W.heap.size W (((W.alloc (.cells #[.int .i64 k, .int .i64 s, .int .u64 m0, .int .u64 m1, .int .u64 m2] 26)).alloc (.cells #[.int .i64 x1, .int .i64 x2] 34)).alloc (.cells #[.int .i64 y1, .int .i64 y2] 34))) := Below.next (Below.next (below_alloc _ _) (below_alloc _ _)) (below_alloc _ _)
  go_enter Try.func82, Try.ntmps82
  go_wp2_with fail
  refine (scompare_calls x1 y1 _).mono ?_
  rintro e w' ⟨rfl, rfl⟩
  go_wp2_with fail
  go_ret
  exact ⟨rfl, B0.out⟩

set_option maxHeartbeats 2000000 in
set_option maxRecDepth 1000000 in
theorem scmp_down (o : Ordr) (hk1 : o.kind = 1) (x y : It) (W : World) : Calls Try.prog 82 #[vOrd o, vIt x, vIt y] W fun e w' => e = .returned (.int .i64 (sg y.1 x.1)) ∧ Below W.heap.size W w' := by
  obtain ⟨k, s, m0, m1, m2⟩ := o
  obtain ⟨x1, x2⟩ := x
  obtain ⟨y1, y2⟩ := y
  dsimp only at hk1
  subst hk1
  have B0 : Aside (Below W.heap.size W (((W.alloc (.cells #[.int .i64 1, .int .i64 s, .int .u64 m0, .int .u64 m1, .int .u64 m2] 26)).alloc (.cells #[.int .i64 x1, .int .i64 x2] 34)).alloc (.cells #[.int .i64 y1, .int .i64 y2] 34))) := Below.next (Below.next (below_alloc _ _) (below_alloc _ _)) (below_alloc _ _)
  go_enter Try.func82, Try.ntmps82
  go_wp2_with fail
  refine (scompare_calls y1 x1 _).mono ?_
  rintro e w' ⟨rfl, rfl⟩
  go_wp2_with fail
  go_ret
  exact ⟨rfl, B0.out⟩

set_option maxHeartbeats 2000000 in
set_option maxRecDepth 1000000 in
theorem scmp_parts (o : Ordr) (hk1 : o.kind = 2) (h0 : 0 ≤ o.shift) (h63 : o.shift < 64) (x y : It) (W : World) : Calls Try.prog 82 #[vOrd o, vIt x, vIt y] W fun e w' => e = .returned (.int .i64 (sg (x.1 / 2 ^ o.shift.toNat) (y.1 / 2 ^ o.shift.toNat))) ∧ Below W.heap.size W w' := by
  obtain ⟨k, s, m0, m1, m2⟩ := o
  obtain ⟨x1, x2⟩ := x
  obtain ⟨y1, y2⟩ := y
  dsimp only at hk1 h0 h63
  subst hk1
  obtain ⟨n, rfl⟩ := Int.eq_ofNat_of_zero_le h0
  dsimp only
  rw [Int.toNat_natCast]
  have B0 : Aside (Below W.heap.size W (((W.alloc (.cells #[.int .i64 2, .int .i64 (n : Int), .int .u64 m0, .int .u64 m1, .int .u64 m2] 26)).alloc (.cells #[.int .i64 x1, .int .i64 x2] 34)).alloc (.cells #[.int .i64 y1, .int .i64 y2] 34))) := Below.next (Below.next (below_alloc _ _) (below_alloc _ _)) (below_alloc _ _)
  go_enter Try.func82, Try.ntmps82
  go_wp2_with fail
  refine (scompare_calls (x1 / 2 ^ n) (y1 / 2 ^ n) _).mono ?_
  rintro e w' ⟨rfl, rfl⟩
  go_wp2_with fail
  go_ret
  exact ⟨rfl, B0.out⟩

set_option maxHeartbeats 2000000 in
set_option maxRecDepth 1000000 in
theorem scmp_wild (o : Ordr) (hk1 : o.kind = 3) (x y : It) (W : World) : Calls Try.prog 82 #[vOrd o, vIt x, vIt y] W fun e w' => e = .returned (.int .i64 (wildC o.m0 o.m1 o.m2 x.1 y.1)) ∧ Below W.heap.size W w' := by
  obtain ⟨k, s, m0, m1, m2⟩ := o
  obtain ⟨x1, x2⟩ := x
  obtain ⟨y1, y2⟩ := y
  dsimp only at hk1
  subst hk1
  have B0 : Aside (Below W.heap.size W (((W.alloc (.cells #[.int .i64 3, .int .i64 s, .int .u64 m0, .int .u64 m1, .int .u64 m2] 26)).alloc (.cells #[.int .i64 x1, .int .i64 x2] 34)).alloc (.cells #[.int .i64 y1, .int .i64 y2] 34))) := Below.next (Below.next (below_alloc _ _) (below_alloc _ _)) (below_alloc _ _)
  go_enter Try.func82, Try.ntmps82
  go_wp2_with fail
  go_ret
  exact ⟨rfl, B0.out⟩

theorem scmp_calls (o : Ordr) (h0 : 0 ≤ o.shift) (h63 : o.shift < 64) (x y : It) (W : World) : Calls Try.prog 82 #[vOrd o, vIt x, vIt y] W fun e w' => e = .returned (.int .i64 (cfO o x y)) ∧ Below W.heap.size W w' := by
  unfold cfO
  by_cases k1 : o.kind = 1
  · rw [if_pos k1]; exact scmp_down o k1 x y W
  · rw [if_neg k1]
    by_cases k2 : o.kind = 2
    · rw [if_pos k2]; exact scmp_parts o k2 h0 h63 x y W
    · rw [if_neg k2]
      by_cases k3 : o.kind = 3
      · rw [if_pos k3]; exact scmp_wild o k3 x y W
      · rw [if_neg k3]; exact scmp_up o k1 k2 k3 x y W

set_option maxHeartbeats 2000000 in
set_option maxRecDepth 1000000 in
theorem sless_calls (o : Ordr) (h0 : 0 ≤ o.shift) (h63 : o.shift < 64) (x y : It) (W : World) : Calls Try.prog 41 #[vOrd o, vIt x, vIt y] W fun e w' => e = .returned (.bool (ltC (cfO o) x y)) ∧ Below W.heap.size W w' := by
  have hc := scmp_calls o h0 h63 x y
  unfold ltC
  generalize cfO o x y = c at hc ⊢
  clear h0 h63
  obtain ⟨k, s, m0, m1, m2⟩ := o
  obtain ⟨x1, x2⟩ := x
  obtain ⟨y1, y2⟩ := y
  have B0 : Aside (Below W.heap.size W (((W.alloc (.cells #[.int .i64 k, .int .i64 s, .int .u64 m0, .int .u64 m1, .int .u64 m2] 26)).alloc (.cells #[.int .i64 x1, .int .i64 x2] 34)).alloc (.cells #[.int .i64 y1, .int .i64 y2] 34))) := Below.next (Below.next (below_alloc _ _) (below_alloc _ _)) (below_alloc _ _)
  go_enter Try.func41, Try.ntmps41
  go_wp2_with fail
  refine (hc _).mono ?_
  rintro e w' ⟨rfl, hb⟩
  have B1 : Aside _ := Below.next B0.out hb
  clear hb hc B0
  go_wp2_with fail
  go_ret
  exact ⟨rfl, B1.out⟩

/-- No element stands ahead of the one in front of it. -/
def ascB (lt : It → It → Bool) (d : Array It) : Bool := decide (∀ i, i < d.size - 1 → lt d[i + 1]! d[i]! = false)
/-- Each element stands ahead of the one in front of it. -/
def fallsB (lt : It → It → Bool) (d : Array It) : Bool := decide (∀ i, i < d.size - 1 → lt d[i + 1]! d[i]! = true)
theorem ascB_true {lt : It → It → Bool} {d : Array It} : ascB lt d = true ↔ ∀ i, i < d.size - 1 → lt d[i + 1]! d[i]! = false := decide_eq_true_iff
theorem fallsB_true {lt : It → It → Bool} {d : Array It} : fallsB lt d = true ↔ ∀ i, i < d.size - 1 → lt d[i + 1]! d[i]! = true := decide_eq_true_iff

set_option maxHeartbeats 4000000 in
set_option maxRecDepth 1000000 in
theorem asc_calls (a : Option Addr) (cap n : Nat) (d : Array It) (o : Ordr) (w : World) (h : Rd2 w a d) (hn : d.size = n) (hsz : n < 4611686018427387904) (h0 : 0 ≤ o.shift) (h63 : o.shift < 64) :
    Calls Try.prog 16 #[.slice a n cap, vOrd o] w fun e w' => e = .returned (.bool (ascB (ltC (cfO o)) d)) ∧ Below w.heap.size w w' := by
  have LC := fun x y W => sless_calls o h0 h63 x y W
  obtain ⟨R, hR⟩ : ∃ R, R = ascB (ltC (cfO o)) d := ⟨_, rfl⟩
  rw [← hR]
  have HR : Aside (R = decide (∀ i, i < n - 1 → ltC (cfO o) d[i + 1]! d[i]! = false)) := by show R = _; rw [hR, ← hn]; rfl
  have HD : Aside (Rd2 w a d ∧ d.size = n) := ⟨h, hn⟩
  generalize ltC (cfO o) = lt at LC HR
  clear h hn h0 h63 hR
  obtain ⟨k, s, m0, m1, m2⟩ := o
  have B0 : Aside (Below w.heap.size w (w.alloc (.cells #[.int .i64 k, .int .i64 s, .int .u64 m0, .int .u64 m1, .int .u64 m2] 26))) := below_alloc _ _
  have K0 : Aside (BoxO (w.alloc (.cells #[.int .i64 k, .int .i64 s, .int .u64 m0, .int .u64 m1, .int .u64 m2] 26)) w.heap.size ⟨k, s, m0, m1, m2⟩) := boxO_new w ⟨k, s, m0, m1, m2⟩ _
  go_enter Try.func16, Try.ntmps16
  go_wp2_with fail
  go_loopg [5] n (fun g vi wr => ∃ i : Nat, vi = .int .i64 ((i + 1 : Nat) : Int) ∧ i ≤ n ∧ n - i ≤ g ∧ Aside (Below w.heap.size w wr) ∧ Aside (BoxO wr w.heap.size ⟨k, s, m0, m1, m2⟩) ∧ Aside (∀ j, j < i → j < n - 1 → lt d[j + 1]! d[j]! = false))
  case atStart => exact ⟨0, by go_num, Nat.zero_le _, by omega, B0, K0, fun j h => by omega⟩
  case round =>
    obtain ⟨i, rfl, hin, hg, Bk, Kk, HJ⟩ := hrel
    by_cases hlt : i + 1 < n
    · have hltz : (i : Int) + 1 < (n : Int) := by omega
      obtain ⟨hd, hn⟩ := HD.out
      obtain ⟨blk, off, rfl, hbl, hc⟩ := hd (by omega)
      obtain ⟨⟨x1, x2⟩, hx⟩ : ∃ v : It, v = d[i + 1]! := ⟨_, rfl⟩
      obtain ⟨⟨y1, y2⟩, hy⟩ : ∃ v : It, v = d[i]! := ⟨_, rfl⟩
      obtain ⟨c1, c2⟩ := hc (i + 1) (by omega)
      obtain ⟨c3, c4⟩ := hc i (by omega)
      rw [← hx] at c1 c2
      rw [← hy] at c3 c4
      have q1 := cell_regrown ((Bk.out.cell (p := ⟨blk, off + (i + 1) * 2, none⟩) hbl).trans c1)
      have q2 := cell_regrown ((Bk.out.cell (p := ⟨blk, off + (i + 1) * 2 + 1, none⟩) hbl).trans c2)
      have q3 := cell_regrown ((Bk.out.cell (p := ⟨blk, off + i * 2, none⟩) hbl).trans c3)
      have q4 := cell_regrown ((Bk.out.cell (p := ⟨blk, off + i * 2 + 1, none⟩) hbl).trans c4)
      obtain ⟨_, k0, k1, k2, k3, k4⟩ := Kk.out
      have p0 := cell_regrown k0
      have p1 := cell_regrown k1
      have p2 := cell_regrown k2
      have p3 := cell_regrown k3
      have p4 := cell_regrown k4
      have hl : ∀ p : Regrown, Calls Try.prog 41 #[.agg #[.int .i64 k, .int .i64 s, .int .u64 m0, .int .u64 m1, .int .u64 m2], .agg #[.int .i64 x1, .int .i64 x2], .agg #[.int .i64 y1, .int .i64 y2]] (grow (redrawn wr p.d) p.os) fun e w'' => e = .returned (.bool (lt (x1, x2) (y1, y2))) ∧ ∃ p : Regrown, w'' = grow (redrawn wr p.d) p.os := fun p => Calls.regrown_of (LC (x1, x2) (y1, y2) _)
      obtain ⟨c, hcc⟩ : ∃ c, c = lt (x1, x2) (y1, y2) := ⟨_, rfl⟩
      rw [← hcc] at hl
      have HV : Aside (lt d[i + 1]! d[i]! = c) := by show lt _ _ = _; rw [← hx, ← hy, hcc]
      have mixed : Try.prog.follows .mixedOrders = true := by kernel_rfl
      dsimp only at q1 q2 q3 q4 p0 p1 p2 p3 p4
      have rI : IntKind.i64.wrap (i : Int) = (i : Int) := by rw [IntKind.wrap_i64]; omega
      have lI : (i : Int) < (n : Int) := by omega
      have rI1 : IntKind.i64.wrap ((i : Int) + 1) = (i : Int) + 1 := by rw [IntKind.wrap_i64]; omega
      have pI1 : (0 : Int) ≤ (i : Int) + 1 := by omega
      have eI1 : ((i : Int) + 1).toNat = i + 1 := by omega
      clear c1 c2 c3 c4 k0 k1 k2 k3 k4 hx hy hcc hbl hc hd hn
      cases c with
      | true =>
        go_wp2_with fail
        refine wp_region_quiet_below (by assumption) (by kernel_rfl) ?_
        repeat' (quiet_step (with_reducible exact hl _))
        all_goals
          refine wpQuiet_nil ?_
          intro _ hw'
          obtain ⟨⟨nq, osq⟩, hw''⟩ := hw'
          subst hw''
        have B2 : Aside _ := Below.next Bk.out (below_regrown wr nq osq)
        clear hl q1 q2 q3 q4 p0 p1 p2 p3 p4
        go_wp2_with fail
        go_ret
        exact ⟨congrArg (fun b => Ending.returned (Value.bool b)) (HR.out.trans (decide_eq_false fun h => by have := h i (by omega); rw [HV.out] at this; cases this)).symm, B2.out⟩
      | false =>
        go_wp2_with fail
        refine wp_region_quiet_below (by assumption) (by kernel_rfl) ?_
        repeat' (quiet_step (with_reducible exact hl _))
        all_goals
          refine wpQuiet_nil ?_
          intro _ hw'
          obtain ⟨⟨nq, osq⟩, hw''⟩ := hw'
          subst hw''
        have B2 : Aside _ := Below.next Bk.out (below_regrown wr nq osq)
        have K2 : Aside _ := Kk.out.keep (below_regrown wr nq osq)
        clear hl q1 q2 q3 q4 p0 p1 p2 p3 p4 Bk Kk mixed
        go_wp2_with fail
        go_roundg (n - (i + 1))
        case measure => omega
        case rel => exact ⟨i + 1, by go_num, by omega, by omega, B2, K2, fun j h1 h2 => by
          by_cases e : j = i
          · subst e; exact HV.out
          · exact HJ.out j (by omega) h2⟩
    · have hltz : ¬ (i : Int) + 1 < (n : Int) := by omega
      go_wp2_with fail
      go_ret
      exact ⟨congrArg (fun b => Ending.returned (Value.bool b)) (HR.out.trans (decide_eq_true fun j hj => HJ.out j (by omega) hj)).symm, Bk.out⟩


end Go.Proofs.Ytglgmkikegbchaa

/- faced: a list as an Interface. -/
namespace Go.Proofs.Ytglgmkikegbchaa
open Go.RowKit Go.Sort

abbrev vFace (b cap n : Nat) (o : Ordr) : Value := .agg #[.slice (some ⟨b, 0, none⟩) n cap, .int .i64 o.kind, .int .i64 o.shift, .int .u64 o.m0, .int .u64 o.m1, .int .u64 o.m2]

set_option maxHeartbeats 4000000 in
set_option maxRecDepth 1000000 in
theorem faced_less (o : Ordr) (HO : CmpC (vOrd o) (cfO o)) (w0 W : World) (b cap n : Nat) (d : Array It) (S : St2 w0 b 0 d W) (hn : d.size = n) (i j : Nat) (hi : i < n) (hj : j < n) :
    Calls Try.prog 181 #[vFace b cap n o, .int .i64 i, .int .i64 j] W fun e w' => e = .returned (.bool (ltC (cfO o) d[i]! d[j]!)) ∧ ∃ q os, w' = grow (W.drewN q) os := by
  have mixed : Try.prog.follows .mixedOrders = true := by kernel_rfl
  obtain ⟨k, s, m0, m1, m2⟩ := o
  obtain ⟨⟨x1, x2⟩, hx⟩ : ∃ x : It, x = d[i]! := ⟨_, rfl⟩
  obtain ⟨⟨y1, y2⟩, hy⟩ : ∃ y : It, y = d[j]! := ⟨_, rfl⟩
  have hcc := HO (x1, x2) (y1, y2)
  dsimp only [vIt, vOrd] at hcc
  obtain ⟨c, hc⟩ : ∃ c, c = cfO ⟨k, s, m0, m1, m2⟩ (x1, x2) (y1, y2) := ⟨_, rfl⟩
  rw [← hc] at hcc
  have hV : ltC (cfO ⟨k, s, m0, m1, m2⟩) d[i]! d[j]! = decide (c < 0) := by show decide _ = _; rw [← hx, ← hy, ← hc]
  rw [hV]
  obtain ⟨V, eV⟩ : ∃ V, V = W.alloc (.cells #[.slice (some ⟨b, 0, none⟩) n cap, .int .i64 k, .int .i64 s, .int .u64 m0, .int .u64 m1, .int .u64 m2] 70) := ⟨_, rfl⟩
  have hVs : ∀ a v, W.cell? a = some v → a.block < W.heap.size → V.cell? a = some v := fun a v h hb => by rw [eV]; exact (World.cell?_of_block (heap_alloc_old _ _ hb)).trans h
  have nb : V.heap[W.heap.size]? = some (.cells #[.slice (some ⟨b, 0, none⟩) n cap, .int .i64 k, .int .i64 s, .int .u64 m0, .int .u64 m1, .int .u64 m2] 70 (0, 0)) := by rw [eV]; exact heap_alloc_new _ _
  have cb : ∀ (q : Nat) (v : Value) (n' : Nat) (os : Array Obj), (#[Value.slice (some ⟨b, 0, none⟩) n cap, .int .i64 k, .int .i64 s, .int .u64 m0, .int .u64 m1, .int .u64 m2] : Array Value)[q]? = some v → (grow (V.drewN n') os).cell? ⟨W.heap.size, q, none⟩ = some v := fun q v n' os h => by
    refine cell_grown (by rw [eV]; simp) ?_ n' os
    simp [World.cell?, nb, h]
  have b0 := fun n' os => cb 0 _ n' os rfl
  have b1 := fun n' os => cb 1 _ n' os rfl
  have b2 := fun n' os => cb 2 _ n' os rfl
  have b3 := fun n' os => cb 3 _ n' os rfl
  have b4 := fun n' os => cb 4 _ n' os rfl
  have b5 := fun n' os => cb 5 _ n' os rfl
  obtain ⟨h11, h12, _, _⟩ := S.holds i (by omega)
  obtain ⟨h21, h22, _, _⟩ := S.holds j (by omega)
  rw [← hx] at h11 h12
  rw [← hy] at h21 h22
  rw [Nat.zero_add] at h11 h12 h21 h22
  have hl := S.lt
  have szV : V.heap.size = W.heap.size + 1 := by rw [eV]; simp
  have c11 := fun n' os => cell_grown (w := V) (a := ⟨b, i * 2, none⟩) (by dsimp only; omega) (hVs _ _ h11 hl) n' os
  have c12 := fun n' os => cell_grown (w := V) (a := ⟨b, i * 2 + 1, none⟩) (by dsimp only; omega) (hVs _ _ h12 hl) n' os
  have c21 := fun n' os => cell_grown (w := V) (a := ⟨b, j * 2, none⟩) (by dsimp only; omega) (hVs _ _ h21 hl) n' os
  have c22 := fun n' os => cell_grown (w := V) (a := ⟨b, j * 2 + 1, none⟩) (by dsimp only; omega) (hVs _ _ h22 hl) n' os
  dsimp only at c11 c12 c21 c22
  have l1 : (i : Int) < (n : Int) := by omega
  have l2 : (j : Int) < (n : Int) := by omega
  have EW : Aside (V = W.alloc (.cells #[.slice (some ⟨b, 0, none⟩) n cap, .int .i64 k, .int .i64 s, .int .u64 m0, .int .u64 m1, .int .u64 m2] 70)) := eV
  clear h11 h12 h21 h22 hl szV hVs cb S hV hx hy hc HO nb hi hj
  go_enter Try.func181, Try.ntmps181
  go_upto_region 1 with fail
  rw [← eV]
  clear eV
  go_quiet_grown (first | (go_at_call 36; refine Calls.grown_of (hcc _)))
  go_wp2_with fail
  go_ret
  exact ⟨rfl, nq, _, by rw [EW.out, alloc_eq_grow]; exact grow_grow (W.drewN nq) _ _⟩

theorem st2_alloc {w0 W : World} {b : Nat} {d : Array It} (S : St2 w0 b 0 d W) (o : Obj) : St2 w0 b 0 d (W.alloc o) := by
  have := S.grow 0 #[o]
  rwa [show Go.Sort.grow (W.drewN 0) #[o] = W.alloc o by rw [alloc_eq_grow]; rfl] at this

set_option maxHeartbeats 8000000 in
set_option maxRecDepth 1000000 in
theorem faced_swap (o : Ordr) (w0 W : World) (b cap n : Nat) (d : Array It) (S : St2 w0 b 0 d W) (hn : d.size = n) (i j : Nat) (hi : i < n) (hj : j < n) :
    Calls Try.prog 182 #[vFace b cap n o, .int .i64 i, .int .i64 j] W fun e w' => e = .returned (.tuple #[]) ∧ St2 w0 b 0 (swp d i j) w' ∧ W.grownBy w' (some b) := by
  have mixed : Try.prog.follows .mixedOrders = true := by kernel_rfl
  obtain ⟨k, s, m0, m1, m2⟩ := o
  obtain ⟨⟨x1, x2⟩, hx⟩ : ∃ x : It, x = d[i]! := ⟨_, rfl⟩
  obtain ⟨⟨y1, y2⟩, hy⟩ : ∃ y : It, y = d[j]! := ⟨_, rfl⟩
  obtain ⟨V, eV⟩ : ∃ V, V = W.alloc (.cells #[.slice (some ⟨b, 0, none⟩) n cap, .int .i64 k, .int .i64 s, .int .u64 m0, .int .u64 m1, .int .u64 m2] 70) := ⟨_, rfl⟩
  have SV : St2 w0 b 0 d V := by rw [eV]; exact st2_alloc S _
  have SW : St2 W b 0 d V := ⟨SV.holds, SV.lt, by rw [eV]; exact World.grownBy_alloc _ _ _⟩
  have nb : V.heap[W.heap.size]? = some (.cells #[.slice (some ⟨b, 0, none⟩) n cap, .int .i64 k, .int .i64 s, .int .u64 m0, .int .u64 m1, .int .u64 m2] 70 (0, 0)) := by rw [eV]; exact heap_alloc_new _ _
  have b0 : V.cell? ⟨W.heap.size, 0, none⟩ = some (.slice (some ⟨b, 0, none⟩) n cap) := by simp [World.cell?, nb]
  have hne : ¬ b = W.heap.size := by have := S.lt; omega
  obtain ⟨c11, c12, f11, f12⟩ := SV.holds i (by omega)
  obtain ⟨c21, c22, f21, f22⟩ := SV.holds j (by omega)
  rw [← hx] at c11 c12
  rw [← hy] at c21 c22
  dsimp only at c11 c12 c21 c22
  obtain ⟨u3, g3⟩ := SV.third i j (by omega) (by omega) (.int .i64 y1) (.int .i64 y2)
  obtain ⟨u4, g4⟩ := SV.fourth i j (by omega) (by omega) (.int .i64 y1) (.int .i64 y2) (.int .i64 x1)
  have S2 : Aside _ := (SV.swap (by omega) (by omega) hx hy).drew
  have S3 : Aside _ := (SW.swap (by omega) (by omega) hx hy).drew
  dsimp only at S2 S3
  simp only [Nat.zero_add] at c11 c12 c21 c22 f11 f12 f21 f22 g3 g4
  have l1 : (i : Int) < (n : Int) := by omega
  have l2 : (j : Int) < (n : Int) := by omega
  clear hx hy SV SW nb S hi hj
  go_enter Try.func182, Try.ntmps182
  go_upto_region 1 with fail
  rw [← eV]
  clear eV
  go_region
  simp only [Nat.zero_add] at S2 S3
  generalize ((((V.setCell ⟨b, i * 2, none⟩ (.int .i64 y1)).setCell ⟨b, i * 2 + 1, none⟩ (.int .i64 y2)).setCell ⟨b, j * 2, none⟩ (.int .i64 x1)).setCell ⟨b, j * 2 + 1, none⟩ (.int .i64 x2)).drew = V2 at S2 S3 ⊢
  clear c11 c12 c21 c22 f11 f12 f21 f22 g3 g4 b0
  go_wp2_with fail
  go_end0
  exact ⟨rfl, S2.out, S3.out.grown⟩

theorem face_ok (o : Ordr) (HO : CmpC (vOrd o) (cfO o)) (w0 : World) (b cap n : Nat) : FaceOk 70 (vFace b cap n o) (ltC (cfO o)) w0 b 0 n 181 182 (vFace b cap n o) (vFace b cap n o) where
  eL := fun args w => by kernel_rfl
  eS := fun args w => by kernel_rfl
  methL := fun d W _ => by kernel_rfl
  methS := fun d W _ => by kernel_rfl
  less := fun d W i j hd S hi hj => faced_less o HO w0 W b cap n d S hd i j hi hj
  swap := fun d W i j hd S hi hj => faced_swap o w0 W b cap n d S hd i j hi hj
end Go.Proofs.Ytglgmkikegbchaa

/- Stability: insertionSort and stable leave those that are alike as they stood; a sorted list is told by them. -/
namespace Go.Proofs.Ytglgmkikegbchaa
open Go.Sort
variable {α : Type} [Inhabited α] {μ : α → Int}

theorem insInner_fil (a b : Nat) : ∀ (j : Nat) (d : Array α), j < b → b ≤ d.size → ∀ v, fil μ v (seg (insInner (ltBy μ) a j d) a b) = fil μ v (seg d a b)
  | 0, _, _, _, _ => rfl
  | j + 1, d, hj, hb, v => by
    rw [insInner]
    split
    · rename_i hc
      simp only [Bool.and_eq_true, decide_eq_true_eq] at hc
      rw [insInner_fil a b j _ (by omega) (by rw [size_swp]; exact hb)]
      have hr := (downLoop_spec (j + 2) 1 (j + 1) d (by omega) (by omega) rfl).1
      rw [Nat.add_sub_cancel] at hr
      have e : downLoop 1 (j + 1) d = swp d (j + 1) j := rfl
      rw [e] at hr
      refine fil_within (p := j) (q := j + 2) (by omega) (by omega) (by omega) (fun i hi => ?_) v (rotated_fil hr (by omega) (by omega) (fun i k h1 h2 h3 h4 => ?_) v)
      · rw [swp_at d (by omega) (by omega), if_neg (by omega), if_neg (by omega)]
      · obtain rfl : i = j := by omega
        obtain rfl : k = i + 1 := by omega
        simpa [ltBy] using hc.2
    · rfl
theorem insOuter_fil (a b : Nat) : ∀ (N i : Nat) (d : Array α), b - i ≤ N → b ≤ d.size → ∀ v, fil μ v (seg (insOuter (ltBy μ) a b i d) a b) = fil μ v (seg d a b) := by
  intro N
  induction N with
  | zero => intro i d h hb v; rw [insOuter, if_neg (by omega)]
  | succ N ih =>
    intro i d h hb v
    rw [insOuter]
    split
    · rename_i hi
      have hs := (insInner_perm (lt := ltBy μ) a b i d hi hb).1
      rw [ih _ _ (by omega) (by rw [hs]; exact hb), insInner_fil a b i d hi hb]
    · rfl
theorem insertionSort_stable (d : Array α) (a b : Nat) (hab : a ≤ b) (hb : b ≤ d.size) : StableIn μ a b d (insertionSort (ltBy μ) d a b) :=
  ⟨insertionSort_perm (lt := ltBy μ) d a b hb, (insertionSort_holds (swo_ltBy μ) d a b hab hb).2, insOuter_fil a b _ _ d (Nat.le_refl _) hb⟩

theorem sorted_of_same {a b : Nat} {d d' : Array α} (h : SortedIn (ltBy μ) a b d) (hs : ∀ i, a ≤ i → i < b → d'[i]! = d[i]!) : SortedIn (ltBy μ) a b d' :=
  sortedBy.2 fun i j h1 h2 h3 => by rw [hs i h1 (by omega), hs j (by omega) h3]; exact sortedBy.1 h i j h1 h2 h3
theorem sorted_part {a b p q : Nat} {d : Array α} (h : SortedIn (ltBy μ) a b d) (h1 : a ≤ p) (h2 : q ≤ b) : SortedIn (ltBy μ) p q d :=
  sortedBy.2 fun i j g1 g2 g3 => sortedBy.1 h i j (by omega) g2 (by omega)
theorem sorted_none {a b : Nat} {d : Array α} (h : b ≤ a) : SortedIn (ltBy μ) a b d := sortedBy.2 fun i j g1 g2 g3 => by omega

theorem insBlocks_stable (s n : Nat) (hs : 0 < s) : ∀ (N a : Nat) (d : Array α), n - a ≤ N → a ≤ n → n ≤ d.size →
    PermIn a n d (insBlocks (ltBy μ) s n a d) ∧ (∀ v, fil μ v (seg (insBlocks (ltBy μ) s n a d) a n) = fil μ v (seg d a n)) ∧ ∀ t, SortedIn (ltBy μ) (a + t * s) (min (a + t * s + s) n) (insBlocks (ltBy μ) s n a d) := by
  intro N
  induction N with
  | zero =>
    intro a d h ha hn
    rw [insBlocks, dif_neg (by omega)]
    have hst := insertionSort_stable (μ := μ) d a n ha hn
    exact ⟨hst.1, hst.2.2, fun t => sorted_none (by omega)⟩
  | succ N ih =>
    intro a d h ha hn
    rw [insBlocks]
    split
    · rename_i hc
      have hst := insertionSort_stable (μ := μ) d a (a + s) (by omega) (by omega)
      generalize insertionSort (ltBy μ) d a (a + s) = d1 at hst ⊢
      obtain ⟨q1, q2, q3⟩ := ih (a + s) d1 (by omega) (by omega) (by rw [hst.1.1]; exact hn)
      generalize insBlocks (ltBy μ) s n (a + s) d1 = d2 at q1 q2 q3 ⊢
      refine ⟨permIn_trans _ _ _ _ _ (permIn_mono _ _ a (a + s) a n (Nat.le_refl _) hc.1 hn hst.1) (permIn_mono _ _ (a + s) n a n (by omega) (Nat.le_refl _) (by rw [hst.1.1]; exact hn) q1), fun v => ?_, fun t => ?_⟩
      · exact (fil_within (p := a + s) (q := n) (by omega) (by omega) (Nat.le_refl _) (fun i hi => q1.2.1 i hi) v (q2 v)).trans (fil_within (p := a) (q := a + s) (Nat.le_refl _) (by omega) (by omega) (fun i hi => hst.1.2.1 i hi) v (hst.2.2 v))
      · cases t with
        | zero =>
          refine sorted_part (sorted_of_same hst.2.1 (fun i h1 h2 => q1.2.1 i (Or.inl h2))) (by omega) (by omega)
        | succ t =>
          have := q3 t
          rwa [show a + s + t * s = a + (t + 1) * s by rw [Nat.add_mul]; omega] at this
    · rename_i hc
      have hst := insertionSort_stable (μ := μ) d a n ha hn
      refine ⟨hst.1, hst.2.2, fun t => ?_⟩
      cases t with
      | zero => exact sorted_part hst.2.1 (by omega) (by omega)
      | succ t => exact sorted_none (by rw [Nat.add_mul]; omega)

theorem mergePass_stable (s n : Nat) (hs : 0 < s) : ∀ (N a : Nat) (d : Array α), n - a ≤ N → n ≤ d.size → (∀ t, SortedIn (ltBy μ) (a + t * s) (min (a + t * s + s) n) d) →
    PermIn a n d (mergePass (ltBy μ) s n a d) ∧ (∀ v, fil μ v (seg (mergePass (ltBy μ) s n a d) a n) = fil μ v (seg d a n)) ∧ ∀ t, SortedIn (ltBy μ) (a + t * (s * 2)) (min (a + t * (s * 2) + s * 2) n) (mergePass (ltBy μ) s n a d) := by
  intro N
  induction N with
  | zero =>
    intro a d h hn hd
    rw [mergePass, dif_neg (by omega), if_neg (by omega)]
    exact ⟨permIn_refl d a n, fun _ => rfl, fun t => sorted_none (by omega)⟩
  | succ N ih =>
    intro a d h hn hd
    rw [mergePass]
    have h0 := hd 0
    have h1 := hd 1
    rw [Nat.zero_mul, Nat.add_zero] at h0
    rw [Nat.one_mul] at h1
    split
    · rename_i hc
      have hst := symMerge_stable (μ := μ) _ a (a + s) (a + 2 * s) d (Nat.le_refl _) (by omega) (by omega) (by omega) (sorted_part h0 (Nat.le_refl _) (by omega)) (sorted_part h1 (Nat.le_refl _) (by omega))
      generalize symMerge (ltBy μ) d a (a + s) (a + 2 * s) = d1 at hst ⊢
      obtain ⟨q1, q2, q3⟩ := ih (a + 2 * s) d1 (by omega) (by rw [hst.1.1]; exact hn) (fun t => by
        have := hd (t + 2)
        rw [show a + (t + 2) * s = a + 2 * s + t * s by rw [Nat.add_mul]; omega] at this
        exact sorted_of_same this (fun i g1 g2 => hst.1.2.1 i (Or.inr (by omega))))
      generalize mergePass (ltBy μ) s n (a + 2 * s) d1 = d2 at q1 q2 q3 ⊢
      refine ⟨permIn_trans _ _ _ _ _ (permIn_mono _ _ a (a + 2 * s) a n (Nat.le_refl _) hc.1 hn hst.1) (permIn_mono _ _ (a + 2 * s) n a n (by omega) (Nat.le_refl _) (by rw [hst.1.1]; exact hn) q1), fun v => ?_, fun t => ?_⟩
      · exact (fil_within (p := a + 2 * s) (q := n) (by omega) (by omega) (Nat.le_refl _) (fun i hi => q1.2.1 i hi) v (q2 v)).trans (fil_within (p := a) (q := a + 2 * s) (Nat.le_refl _) (by omega) (by omega) (fun i hi => hst.1.2.1 i hi) v (hst.2.2 v))
      · cases t with
        | zero => exact sorted_part (sorted_of_same hst.2.1 (fun i g1 g2 => q1.2.1 i (Or.inl g2))) (by omega) (by omega)
        | succ t =>
          have := q3 t
          rwa [show a + 2 * s + t * (s * 2) = a + (t + 1) * (s * 2) by rw [Nat.add_mul]; omega] at this
    · rename_i hc
      split
      · rename_i hc2
        have hst := symMerge_stable (μ := μ) _ a (a + s) n d (Nat.le_refl _) (by omega) hc2 hn (sorted_part h0 (Nat.le_refl _) (by omega)) (sorted_part h1 (Nat.le_refl _) (by omega))
        refine ⟨hst.1, hst.2.2, fun t => ?_⟩
        cases t with
        | zero => exact sorted_part hst.2.1 (by omega) (by omega)
        | succ t => exact sorted_none (by rw [Nat.add_mul]; omega)
      · refine ⟨permIn_refl d a n, fun _ => rfl, fun t => ?_⟩
        cases t with
        | zero => exact sorted_part h0 (by omega) (by omega)
        | succ t => exact sorted_none (by rw [Nat.add_mul]; omega)

theorem stableLoop_stable (n : Nat) : ∀ (N s : Nat) (d : Array α), n - s ≤ N → 0 < s → n ≤ d.size → (∀ t, SortedIn (ltBy μ) (0 + t * s) (min (0 + t * s + s) n) d) → StableIn μ 0 n d (stableLoop (ltBy μ) n s d) := by
  intro N
  induction N with
  | zero =>
    intro s d h hs hn hd
    rw [stableLoop, dif_neg (by omega)]
    exact StableIn.refl (sorted_part (hd 0) (by omega) (by omega))
  | succ N ih =>
    intro s d h hs hn hd
    rw [stableLoop]
    split
    · rename_i hc
      obtain ⟨q1, q2, q3⟩ := mergePass_stable (μ := μ) s n hs _ 0 d (Nat.le_refl _) hn hd
      have r := ih (s * 2) (mergePass (ltBy μ) s n 0 d) (by omega) (by omega) (by rw [q1.1]; exact hn) q3
      exact ⟨permIn_trans _ _ _ _ _ q1 r.1, r.2.1, fun v => (r.2.2 v).trans (q2 v)⟩
    · exact StableIn.refl (sorted_part (hd 0) (by omega) (by omega))
theorem stable_stable (d : Array α) (n : Nat) (hn : n ≤ d.size) : StableIn μ 0 n d (stable (ltBy μ) d n) := by
  obtain ⟨q1, q2, q3⟩ := insBlocks_stable (μ := μ) 20 n (by decide) _ 0 d (Nat.le_refl _) (Nat.zero_le _) hn
  have r := stableLoop_stable (μ := μ) n _ 20 _ (Nat.le_refl _) (by decide) (by rw [q1.1]; exact hn) q3
  exact ⟨permIn_trans _ _ _ _ _ q1 r.1, r.2.1, fun v => (r.2.2 v).trans (q2 v)⟩

/-! ### a list in the order, and by putting one behind the other into its place -/
section
omit [Inhabited α]
def Asc (μ : α → Int) (l : List α) : Prop := l.Pairwise fun x y => μ x ≤ μ y
theorem asc_unique : ∀ (l k : List α), Asc μ l → Asc μ k → (∀ v, fil μ v l = fil μ v k) → l = k
  | [], [], _, _, _ => rfl
  | [], y :: k, _, _, h => by
    have := h (μ y)
    simp [fil] at this
  | x :: l, [], _, _, h => by
    have := h (μ x)
    simp [fil] at this
  | x :: l, y :: k, hl, hk, h => by
    have hx : x ∈ y :: k := by
      have : x ∈ fil μ (μ x) (y :: k) := by rw [← h]; simp [fil]
      exact (List.mem_filter.1 this).1
    have hy : y ∈ x :: l := by
      have : y ∈ fil μ (μ y) (x :: l) := by rw [h]; simp [fil]
      exact (List.mem_filter.1 this).1
    have le1 : μ y ≤ μ x := by
      rcases List.mem_cons.1 hx with rfl | hx
      · exact Int.le_refl _
      · exact (List.pairwise_cons.1 hk).1 x hx
    have le2 : μ x ≤ μ y := by
      rcases List.mem_cons.1 hy with rfl | hy
      · exact Int.le_refl _
      · exact (List.pairwise_cons.1 hl).1 y hy
    have e : μ x = μ y := by omega
    have hh := h (μ x)
    unfold fil at hh
    rw [List.filter_cons_of_pos (by simp), List.filter_cons_of_pos (by simp [e])] at hh
    injection hh with e1 e2
    subst e1
    rw [asc_unique l k (List.pairwise_cons.1 hl).2 (List.pairwise_cons.1 hk).2 (fun v => ?_)]
    have hv := h v
    unfold fil at hv ⊢
    rw [List.filter_cons, List.filter_cons] at hv
    split at hv
    · injection hv
    · exact hv
end

/-- A list with an element put ahead of the place p. -/
def insAt (l : List α) (p : Nat) (x : α) : List α := l.take p ++ x :: l.drop p
/-- By putting one behind the other into its place: the first one whose element stands behind. -/
def stablyFrom (lt : α → α → Bool) (out : List α) : List α → List α
  | [] => out
  | x :: l => stablyFrom lt (insAt out (bsearch (fun m => !lt x out[m]!) 0 out.length) x) l
def stablyP (lt : α → α → Bool) (l : List α) : List α := stablyFrom lt [] l

theorem asc_insAt (out : List α) (x : α) (h : Asc μ out) : Asc μ (insAt out (bsearch (fun m => !ltBy μ x out[m]!) 0 out.length) x) ∧ ∀ v, fil μ v (insAt out (bsearch (fun m => !ltBy μ x out[m]!) 0 out.length) x) = fil μ v (out ++ [x]) := by
  obtain ⟨b1, b2, b3, b4⟩ := bsearch_spec (fun m => !ltBy μ x out[m]!) 0 out.length (Nat.zero_le _)
  generalize bsearch (fun m => !ltBy μ x out[m]!) 0 out.length = p at b1 b2 b3 b4 ⊢
  have hget : ∀ (i j : Nat) (hij : i ≤ j) (hj : j < out.length), μ (out[i]'(Nat.lt_of_le_of_lt hij hj)) ≤ μ out[j] := fun i j hij hj => by
    rcases Nat.lt_or_ge i j with e | e
    · exact (List.pairwise_iff_getElem.1 h) i j (by omega) hj e
    · obtain rfl : i = j := by omega
      exact Int.le_refl _
  have hlo : ∀ y ∈ out.take p, μ y ≤ μ x := fun y hy => by
    obtain ⟨i, hi, rfl⟩ := List.mem_iff_getElem.1 hy
    have hi' : i < p := by have := hi; rw [List.length_take] at this; omega
    rw [List.getElem_take]
    rcases b3 with rfl | b3
    · omega
    · simp only [Bool.not_eq_true', ltBy, decide_eq_false_iff_not, Int.not_lt] at b3
      rw [getElem!_pos out (p - 1) (by omega)] at b3
      exact Int.le_trans (hget i (p - 1) (by omega) (by omega)) b3
  have hhi : ∀ y ∈ out.drop p, μ x < μ y := fun y hy => by
    obtain ⟨i, hi, rfl⟩ := List.mem_iff_getElem.1 hy
    have hi' : p + i < out.length := by have := hi; rw [List.length_drop] at this; omega
    rw [List.getElem_drop]
    rcases b4 with rfl | b4
    · omega
    · simp only [Bool.not_eq_false', ltBy, decide_eq_true_eq] at b4
      rw [getElem!_pos out p (by omega)] at b4
      exact Int.lt_of_lt_of_le b4 (hget p (p + i) (by omega) hi')
  have hs : Asc μ (out.take p ++ out.drop p) := by rw [List.take_append_drop]; exact h
  obtain ⟨s1, s2, s3⟩ := List.pairwise_append.1 hs
  constructor
  · refine List.pairwise_append.2 ⟨s1, List.pairwise_cons.2 ⟨fun y hy => Int.le_of_lt (hhi y hy), s2⟩, fun y hy z hz => ?_⟩
    rcases List.mem_cons.1 hz with rfl | hz
    · exact hlo y hy
    · exact s3 y hy z hz
  · intro v
    unfold insAt
    rw [show out.take p ++ x :: out.drop p = out.take p ++ ([x] ++ out.drop p) from rfl, fil_append, fil_append μ v [x]]
    conv => rhs; rw [← List.take_append_drop p out]
    rw [fil_append, fil_append, List.append_assoc]
    congr 1
    by_cases hx : μ x = v
    · have : fil μ v (out.drop p) = [] := fil_nil_of μ fun y hy => by have := hhi y hy; omega
      rw [this]; simp
    · have : fil μ v [x] = [] := fil_nil_of μ fun y hy => by rw [List.mem_singleton.1 hy]; exact hx
      rw [this]; simp
theorem asc_stablyFrom : ∀ (l out : List α), Asc μ out → Asc μ (stablyFrom (ltBy μ) out l) ∧ ∀ v, fil μ v (stablyFrom (ltBy μ) out l) = fil μ v (out ++ l)
  | [], out, h => ⟨h, fun v => by rw [List.append_nil]; rfl⟩
  | x :: l, out, h => by
    obtain ⟨h1, h2⟩ := asc_insAt out x h
    obtain ⟨h3, h4⟩ := asc_stablyFrom l _ h1
    refine ⟨h3, fun v => ?_⟩
    rw [stablyFrom, h4, fil_append, h2, ← fil_append]
    simp
/-- What a stable sort of a part leaves there. -/
theorem stably_of {a b : Nat} {d d' : Array α} (h : StableIn μ a b d d') (_hab : a ≤ b) : seg d' a b = stablyP (ltBy μ) (seg d a b) := by
  obtain ⟨h1, h2⟩ := asc_stablyFrom (μ := μ) (seg d a b) [] List.Pairwise.nil
  refine asc_unique _ _ ?_ h1 (fun v => (h.2.2 v).trans (h2 v).symm)
  refine List.pairwise_iff_getElem.2 fun i j hi hj hij => ?_
  rw [seg_get, seg_get]
  rw [seg_length] at hj
  exact sortedBy.1 h.2.1 (a + i) (a + j) (by omega) (by omega) (by omega)
end Go.Proofs.Ytglgmkikegbchaa

/- Orders that are ones compare by a measure; the median of three by a measure. -/
namespace Go.Proofs.Ytglgmkikegbchaa
open Go.Sort Go.RowKit

/-- The measure by which an order compares. -/
def muO (o : Ordr) (x : It) : Int := if o.kind = 1 then -x.1 else if o.kind = 2 then x.1 / 2 ^ o.shift.toNat else x.1
theorem sg_neg (a b : Int) : (sg a b < 0) ↔ a < b := by
  unfold sg
  by_cases h : a < b
  · simp [h]
  · by_cases h2 : b < a <;> simp [h, h2]
theorem ltC_by (o : Ordr) (h3 : o.kind ≠ 3) : ltC (cfO o) = ltBy (muO o) := by
  funext x y
  unfold ltC ltBy cfO muO
  refine decide_eq_decide.2 ?_
  by_cases k1 : o.kind = 1
  · simp only [k1, if_true, sg_neg]; omega
  · by_cases k2 : o.kind = 2
    · simp only [k2, if_true, sg_neg, show ¬ (2 : Int) = 1 by decide, if_false]
    · simp only [k1, k2, h3, if_false, sg_neg]

/-- One of three places. -/
def at3 (x y z : Nat) (i : Nat) : Nat := if i = 0 then x else if i = 1 then y else z
theorem order2_by {μ : It → Int} (d : Array It) (a b s : Nat) : (μ d[b]! < μ d[a]! ∧ order2 (ltBy μ) d a b s = (b, a, s + 1)) ∨ (μ d[a]! ≤ μ d[b]! ∧ order2 (ltBy μ) d a b s = (a, b, s)) := by
  unfold order2 ltBy
  by_cases h : μ d[b]! < μ d[a]!
  · exact Or.inl ⟨h, if_pos (by simpa using h)⟩
  · exact Or.inr ⟨by omega, if_neg (by simpa using h)⟩
theorem median_by {μ : It → Int} (d : Array It) (x y z : Nat) : ∃ m s, median (ltBy μ) d x y z 0 = (m, s) ∧ s ≤ 3 ∧
    ((m = x ∧ ((μ d[y]! ≤ μ d[x]! ∧ μ d[x]! ≤ μ d[z]!) ∨ (μ d[z]! ≤ μ d[x]! ∧ μ d[x]! ≤ μ d[y]!))) ∨ (m = y ∧ ((μ d[x]! ≤ μ d[y]! ∧ μ d[y]! ≤ μ d[z]!) ∨ (μ d[z]! ≤ μ d[y]! ∧ μ d[y]! ≤ μ d[x]!))) ∨
     (m = z ∧ ((μ d[x]! ≤ μ d[z]! ∧ μ d[z]! ≤ μ d[y]!) ∨ (μ d[y]! ≤ μ d[z]! ∧ μ d[z]! ≤ μ d[x]!)))) := by
  unfold median
  rcases order2_by (μ := μ) d x y 0 with ⟨h1, e1⟩ | ⟨h1, e1⟩ <;> rw [e1] <;> dsimp only
  · rcases order2_by (μ := μ) d x z (0 + 1) with ⟨h2, e2⟩ | ⟨h2, e2⟩ <;> rw [e2] <;> dsimp only
    · rcases order2_by (μ := μ) d y z (0 + 1 + 1) with ⟨h3, e3⟩ | ⟨h3, e3⟩ <;> rw [e3] <;> dsimp only
      · exact ⟨_, _, rfl, by omega, Or.inr (Or.inl ⟨rfl, by omega⟩)⟩
      · exact ⟨_, _, rfl, by omega, Or.inr (Or.inr ⟨rfl, by omega⟩)⟩
    · rcases order2_by (μ := μ) d y x (0 + 1) with ⟨h3, e3⟩ | ⟨h3, e3⟩ <;> rw [e3] <;> dsimp only
      · exact ⟨_, _, rfl, by omega, Or.inr (Or.inl ⟨rfl, by omega⟩)⟩
      · exact ⟨_, _, rfl, by omega, Or.inl ⟨rfl, by omega⟩⟩
  · rcases order2_by (μ := μ) d y z 0 with ⟨h2, e2⟩ | ⟨h2, e2⟩ <;> rw [e2] <;> dsimp only
    · rcases order2_by (μ := μ) d x z (0 + 1) with ⟨h3, e3⟩ | ⟨h3, e3⟩ <;> rw [e3] <;> dsimp only
      · exact ⟨_, _, rfl, by omega, Or.inl ⟨rfl, by omega⟩⟩
      · exact ⟨_, _, rfl, by omega, Or.inr (Or.inr ⟨rfl, by omega⟩)⟩
    · rcases order2_by (μ := μ) d x y 0 with ⟨h3, e3⟩ | ⟨h3, e3⟩ <;> rw [e3] <;> dsimp only
      · exact ⟨_, _, rfl, by omega, Or.inl ⟨rfl, by omega⟩⟩
      · exact ⟨_, _, rfl, by omega, Or.inr (Or.inl ⟨rfl, by omega⟩)⟩
end Go.Proofs.Ytglgmkikegbchaa

/- A list of elements under construction: a row of the call's own. -/
namespace Go.Proofs.Ytglgmkikegbchaa
open Go.RowKit Go.Sort

theorem cells2_append : ∀ (l m : List It), cells2 (l ++ m) = cells2 l ++ cells2 m
  | [], m => rfl
  | x :: r, m => by simp [cells2, cells2_append r m]

/-- What an owned row holds, as a slice of elements. -/
theorem own_holds {w : World} {base : Nat} {v : Value} {l : List It} (h : w.ownsRow base 34 2 v l.length (cells2 l)) :
    ∃ a cap, v = .slice a l.length cap ∧ Rd2 w a l.toArray ∧ (v = .slice none 0 0 ∨ ∃ g, a = some ⟨g, 0, none⟩ ∧ base ≤ g ∧ g < w.heap.size ∧ l.length ≤ cap ∧ Holds2 w g 0 l.toArray) := by
  obtain ⟨hl, ⟨rfl, h0⟩ | ⟨g, cap, cur, rfl, hb, hg, hnc, _, hcs, ht⟩⟩ := h
  · refine ⟨none, 0, by rw [h0], fun hp => ?_, Or.inl rfl⟩
    simp at hp
    omega
  · have hgl : g < w.heap.size := by
      rcases Nat.lt_or_ge g w.heap.size with h | h
      · exact h
      · rw [Array.getElem?_eq_none h] at hg; cases hg
    have hH : Holds2 w g 0 l.toArray := fun i hi => by
      have hi' : i < l.length := by simpa using hi
      have c : ∀ k u, k < l.length * 2 → (cells2 l)[k]? = some u → w.cell? ⟨g, 0 + k, none⟩ = some u := fun k u hk hu => by
        simp only [World.cell?, hg, Nat.zero_add]
        rw [← ht, List.getElem?_take_of_lt hk] at hu
        simpa using hu
      have f : ∀ k, w.frozen? ⟨g, k, none⟩ = false := fun k => by simp [World.frozen?, hg]
      exact ⟨by have := c (i * 2) _ (by omega) (cells2_fst l i hi'); simpa using this, by have := c (i * 2 + 1) _ (by omega) (cells2_snd l i hi'); simpa [Nat.add_assoc] using this, f _, f _⟩
    exact ⟨_, cap, rfl, fun _ => ⟨g, 0, rfl, hgl, fun i hi => ⟨(hH i hi).1, (hH i hi).2.1⟩⟩, Or.inr ⟨g, rfl, hb, hgl, hnc, hH⟩⟩

theorem own_below {w w' : World} {base : Nat} {e : TypeId} {size n : Nat} {v : Value} {xs : List Value} (h : w.ownsRow base e size v n xs) (hb : Below w.heap.size w w') : w'.ownsRow base e size v n xs := by
  obtain ⟨hl, h | ⟨g, cap, cur, e1, e2, hg, r⟩⟩ := h
  · exact ⟨hl, Or.inl h⟩
  · have hgl : g < w.heap.size := by
      rcases Nat.lt_or_ge g w.heap.size with h | h
      · exact h
      · rw [Array.getElem?_eq_none h] at hg; cases hg
    exact ⟨hl, Or.inr ⟨g, cap, cur, e1, e2, (hb.block g hgl).trans hg, r⟩⟩

theorem own_grown {w0 w w' : World} {base : Nat} {e : TypeId} {size n : Nat} {v : Value} {xs : List Value} (h : w.ownsRow base e size v n xs) (hb : Below w0.heap.size w0 w) (hB : w0.heap.size ≤ base) (hg : w.grownBy w' v.ownBlock) : Below w0.heap.size w0 w' := by
  refine hb.grown hg hb.size (fun k ek => ?_)
  obtain ⟨_, ⟨rfl, _⟩ | ⟨g, cap, cur, rfl, e2, _⟩⟩ := h
  · cases ek
  · cases ek; exact Nat.le_trans hB e2
end Go.Proofs.Ytglgmkikegbchaa

/- copy(dst, src) over elements of two cells, into a row that is known whole; src may lie in it. -/
namespace Go.Proofs.Ytglgmkikegbchaa
open Go.RowKit Go.Sort

theorem run_copy2_row {P : Program} (w : World) (dT sT ty elem : TypeId) (g o dLen dCap : Nat) (a : Addr) (sLen sCap : Nat) (cur : Array Value) (t : TypeId) (cs : List Value)
    (hu : P.underlying dT = some (.slice elem)) (hs : (P.info? elem).map (·.size) = some 2)
    (hg : w.heap[g]? = some (.cells cur t (0, 0))) (hn : cs.length = Nat.min sLen dLen * 2)
    (hsrc : ∀ j v, cs[j]? = some v → w.cell? (a.add j) = some v) (hfit : o + cs.length ≤ cur.size) (h1 : ∀ v ∈ cs, v.oneCell' = true) :
    (Builtin.copy_ #[dT, sT] ty #[.slice (some ⟨g, o, none⟩) dLen dCap, .slice (some a) sLen sCap]).run P w =
      .ok (goInt (Nat.min sLen dLen)) (w.setRow g (cur.toList.take o ++ cs ++ cur.toList.drop (o + cs.length)).toArray) := by
  have hl := run_loadCells_list (P := P) w a cs hsrc
  have hst := run_storeCells_at P g o t cs 0 cur w hg (by simpa using hfit) h1
  cases hq : P.info? elem with
  | none => simp [hq] at hs
  | some i =>
    have hi : i.size = 2 := by simpa [hq] using hs
    simp [Builtin.copy_, run_underlying hu, Builtin.lenOf, Builtin.firstCells, sizeOf, typeInfo, hq, hi, ← hn, hl, hst]

theorem run_copy2_none {P : Program} (w : World) (dT sT ty elem : TypeId) (d a : Option Addr) (dLen dCap sLen sCap : Nat) (hu : P.underlying dT = some (.slice elem)) (hs : (P.info? elem).map (·.size) = some 2) (hn : Nat.min sLen dLen = 0) :
    (Builtin.copy_ #[dT, sT] ty #[.slice d dLen dCap, .slice a sLen sCap]).run P w = .ok (goInt 0) w := by
  cases hq : P.info? elem with
  | none => simp [hq] at hs
  | some i =>
    have hl : ∀ (x : Addr), (loadCells x 0).run P w = .ok #[] w := fun x => by simpa using run_loadCells_list (P := P) w x [] (by simp)
    cases d <;> cases a <;> simp [Builtin.copy_, run_underlying hu, Builtin.lenOf, Builtin.firstCells, sizeOf, typeInfo, hq, hn, storeCells, hl]

/-- What a copy leaves. -/
structure CopyTo (w w' : World) (g : Nat) (cur : List Value) (off : Nat) (cs : List Value) (t : TypeId) : Prop where
  row : w'.heap[g]? = some (.cells (splice cur off cs).toArray t (0, 0))
  below : ∀ B w0, Below B w0 w → B ≤ g → Below B w0 w'
  other : ∀ k, k ≠ g → w'.heap[k]? = w.heap[k]?
  size : w'.heap.size = w.heap.size

theorem run_copy2 {P : Program} (w : World) (dT sT ty elem : TypeId) (dp sp : Option Addr) (dLen dCap sLen sCap g off : Nat) (cur : List Value) (t : TypeId) (cs : List Value)
    (hu : P.underlying dT = some (.slice elem)) (hs : (P.info? elem).map (·.size) = some 2)
    (hg : w.heap[g]? = some (.cells cur.toArray t (0, 0))) (hn : cs.length = Nat.min sLen dLen * 2)
    (hpos : 0 < cs.length → dp = some ⟨g, off, none⟩ ∧ ∃ ad, sp = some ad ∧ ∀ j v, cs[j]? = some v → w.cell? (ad.add j) = some v)
    (hfit : off + cs.length ≤ cur.length) (h1 : ∀ v ∈ cs, v.oneCell' = true) :
    ∃ w', (Builtin.copy_ #[dT, sT] ty #[.slice dp dLen dCap, .slice sp sLen sCap]).run P w = .ok (goInt (Nat.min sLen dLen)) w' ∧ CopyTo w w' g cur off cs t := by
  by_cases h0 : 0 < cs.length
  · obtain ⟨rfl, ad, rfl, hc⟩ := hpos h0
    refine ⟨_, run_copy2_row w dT sT ty elem g off dLen dCap ad sLen sCap cur.toArray t cs hu hs hg hn hc (by simpa using hfit) h1, ?_, fun B w0 hb hB => below_setRow hb hB _, fun k hk => ?_, by simp [World.setRow]⟩
    · rw [setRow_heap w g _ _ t _ hg]
      simp [splice]
    · exact setRow_other w g k _ hk
  · have e : cs = [] := List.eq_nil_of_length_eq_zero (by omega)
    subst e
    have hm : Nat.min sLen dLen = 0 := by simp at hn; omega
    refine ⟨w, by rw [hm]; simpa using run_copy2_none (P := P) w dT sT ty elem dp sp dLen dCap sLen sCap hu hs hm, ?_, fun _ _ hb _ => hb, fun _ _ => rfl, rfl⟩
    rw [hg]; simp [splice]

/-- A copy whose run is known, met in the walk. -/
theorem wpList_copy_eq {P : Program} {ops : Array Oper} {rest : List Oper} {o : Oper} {a : Act} {Q : Exit → Act → World → Prop} {w : World} (hgd : o.guard = none) (d s : Operand) (dT sT : TypeId)
    (ho : o.op = .call { callee := .builtin .copy, args := #[d, s], argTypes := #[dT, sT] }) (dv sv v : Value) (w' : World) (hd : a.eval d = dv) (hs : a.eval s = sv)
    (hr : (Builtin.copy_ #[dT, sT] o.type #[dv, sv]).run P w = .ok v w') (h : wpList P ops Q rest (a.put o.dst v) w') : wpList P ops Q (o :: rest) a w :=
  wpList_plain hgd fun _ hK => by
    unfold Oper.wp execOp
    simp only [ho, resolve, invoke, builtin, Sem.run_bind, Sem.run_pure, Result.andThen_ok, List.map_toArray, List.map_cons, List.map_nil, hd, hs, hr]
    exact hK _ _ h
theorem cells2_take : ∀ (l : List It) (k : Nat), (cells2 l).take (k * 2) = cells2 (l.take k)
  | [], k => by simp [cells2]
  | x :: l, 0 => by simp [cells2]
  | x :: l, k + 1 => by rw [show (k + 1) * 2 = k * 2 + 1 + 1 by omega]; simp [cells2, cells2_take l k]
theorem cells2_drop : ∀ (l : List It) (k : Nat), (cells2 l).drop (k * 2) = cells2 (l.drop k)
  | [], k => by simp [cells2]
  | x :: l, 0 => by simp [cells2]
  | x :: l, k + 1 => by rw [show (k + 1) * 2 = k * 2 + 1 + 1 by omega]; simp [cells2, cells2_drop l k]
end Go.Proofs.Ytglgmkikegbchaa

/- spec.Stably: a list in an order, by putting one element behind the other into its place. -/
namespace Go.Proofs.Ytglgmkikegbchaa
open Go.RowKit Go.Sort

theorem stablyFrom_append {α : Type} [Inhabited α] (lt : α → α → Bool) : ∀ (l : List α) (out : List α) (x : α), stablyFrom lt out (l ++ [x]) = insAt (stablyFrom lt out l) (bsearch (fun m => !lt x (stablyFrom lt out l)[m]!) 0 (stablyFrom lt out l).length) x
  | [], _, _ => rfl
  | _ :: l, _, x => stablyFrom_append lt l _ x
theorem stablyP_snoc {α : Type} [Inhabited α] (lt : α → α → Bool) (l : List α) (x : α) : stablyP lt (l ++ [x]) = insAt (stablyP lt l) (bsearch (fun m => !lt x (stablyP lt l)[m]!) 0 (stablyP lt l).length) x := stablyFrom_append lt l [] x
theorem length_insAt {α : Type} (l : List α) (p : Nat) (x : α) (h : p ≤ l.length) : (insAt l p x).length = l.length + 1 := by simp [insAt]; omega
theorem length_stablyFrom {α : Type} [Inhabited α] (lt : α → α → Bool) : ∀ (l out : List α), (stablyFrom lt out l).length = out.length + l.length
  | [], out => by simp [stablyFrom]
  | x :: l, out => by
    rw [stablyFrom, length_stablyFrom lt l, length_insAt _ _ _ (bsearch_range _ _ 0 out.length (Nat.le_refl _) (Nat.zero_le _)).2]
    simp; omega
theorem length_stablyP {α : Type} [Inhabited α] (lt : α → α → Bool) (l : List α) : (stablyP lt l).length = l.length := by rw [stablyP, length_stablyFrom]; simp

theorem row_set {w : World} {g i : Nat} {cs : Array Value} {t : TypeId} {fr : Nat × Nat} (h : w.heap[g]? = some (.cells cs t fr)) (v : Value) : (w.setCell ⟨g, i, none⟩ v).heap[g]? = some (.cells (cs.setIfInBounds i v) t fr) := by
  simp [World.setCell, Array.getElem?_modify, h]
theorem cells2_set : ∀ (l : List It) (k : Nat) (x1 x2 : Int) (z : List Value), k < l.length → ((cells2 l ++ z).set (k * 2) (.int .i64 x1)).set (k * 2 + 1) (.int .i64 x2) = cells2 (l.set k (x1, x2)) ++ z
  | [], k, _, _, _, h => by simp at h
  | y :: l, 0, x1, x2, z, _ => by simp [cells2]
  | y :: l, k + 1, x1, x2, z, h => by
    have := cells2_set l k x1 x2 z (by simpa using h)
    rw [show (k + 1) * 2 = k * 2 + 1 + 1 by omega]
    simp only [cells2, List.cons_append, List.set_cons_succ]
    rw [this]
/-- What the copy and the store make of the list. -/
theorem shift_insAt (L : List It) (p : Nat) (x u : It) (h : p ≤ L.length) : ((L ++ [u]).take (p + 1) ++ (L.drop p ++ (L ++ [u]).drop (p + 1 + (L.drop p).length))).set p x = insAt L p x := by
  unfold insAt
  apply List.ext_getElem?
  intro i
  have hlen : (L.drop p).length = L.length - p := by simp
  rw [hlen, show p + 1 + (L.length - p) = L.length + 1 by omega]
  have e1 : (L ++ [u]).drop (L.length + 1) = [] := by rw [List.drop_eq_nil_iff]; simp
  rw [e1, List.append_nil]
  have ht : ((L ++ [u]).take (p + 1)).length = p + 1 := by simp; omega
  have ht2 : (L.take p).length = p := by simp; omega
  by_cases h1 : i < p
  · rw [List.getElem?_set_ne (by omega), List.getElem?_append_left (by omega), List.getElem?_append_left (by omega), List.getElem?_take_of_lt (by omega), List.getElem?_take_of_lt h1, List.getElem?_append_left (by omega)]
  · by_cases h2 : i = p
    · subst h2
      rw [List.getElem?_set_self (by simp; omega), List.getElem?_append_right (by omega), ht2]; simp
    · rw [List.getElem?_set_ne (by omega), List.getElem?_append_right (by omega), ht, List.getElem?_append_right (by omega), ht2]
      rw [show i - p = (i - (p + 1)) + 1 by omega, List.getElem?_cons_succ]
theorem splice_shift (L : List It) (p : Nat) (u : It) (z : List Value) (h : p ≤ L.length) : splice (cells2 (L ++ [u]) ++ z) ((p + 1) * 2) (cells2 (L.drop p)) = cells2 ((L ++ [u]).take (p + 1) ++ (L.drop p ++ (L ++ [u]).drop (p + 1 + (L.drop p).length))) ++ z := by
  unfold splice
  have hl : (cells2 (L ++ [u])).length = (L.length + 1) * 2 := by rw [cells2_length]; simp
  have hd : (cells2 (L.drop p)).length = (L.length - p) * 2 := by rw [cells2_length]; simp
  have hd' : (L.drop p).length = L.length - p := by simp
  rw [List.take_append_of_le_length (by omega), hd, hd', show (p + 1) * 2 + (L.length - p) * 2 = (p + 1 + (L.length - p)) * 2 by omega, List.drop_append_of_le_length (by omega), cells2_take, cells2_drop, cells2_append, cells2_append]
  simp

set_option maxHeartbeats 8000000 in
set_option maxRecDepth 1000000 in
theorem stably_calls (a : Option Addr) (cap n : Nat) (d : Array It) (o : Ordr) (w : World) (h : Rd2 w a d) (hn : d.size = n) (hsz : n ≤ 2000) (hs0 : 0 ≤ o.shift) (hs1 : o.shift < 64) :
    Calls Try.prog 18 #[.slice a n cap, vOrd o] w fun e w' => ∃ ra rcap, e = .returned (.slice ra n rcap) ∧ Rd2 w' ra (stablyP (ltC (cfO o)) d.toList).toArray ∧ n ≤ rcap ∧ Below w.heap.size w w' := by
  obtain ⟨i0, hi, hz0, hz1, hz2⟩ := info_parts (show (Try.prog.info? 34).map (fun i => (i.zero, i.size, i.bytes)) = some (some (.agg #[.int .i64 0, .int .i64 0]), 2, 16) by kernel_rfl)
  have hI : Aside (Try.prog.info? 34 = some i0 ∧ i0.zero = some (.agg #[.int .i64 0, .int .i64 0]) ∧ i0.size = 2 ∧ i0.bytes = 16) := ⟨hi, hz0, hz1, hz2⟩
  have LC0 := fun x y W => sless_calls o hs0 hs1 x y W
  generalize ltC (cfO o) = lt at LC0 ⊢
  have LC : Aside _ := LC0
  have HD : Aside (Rd2 w a d ∧ d.size = n) := ⟨h, hn⟩
  clear hi hz0 hz1 hz2 h hn hs0 hs1 LC0
  obtain ⟨k, s, m0, m1, m2⟩ := o
  have B0 : Aside (Below w.heap.size w (w.alloc (.cells #[.int .i64 k, .int .i64 s, .int .u64 m0, .int .u64 m1, .int .u64 m2] 26))) := below_alloc _ _
  have K0 : Aside (BoxO (w.alloc (.cells #[.int .i64 k, .int .i64 s, .int .u64 m0, .int .u64 m1, .int .u64 m2] 26)) w.heap.size ⟨k, s, m0, m1, m2⟩) := boxO_new w ⟨k, s, m0, m1, m2⟩ _
  go_enter Try.func18, Try.ntmps18
  go_wp2_with fail
  go_loopg [5, 13] n (fun g vo vi wr => ∃ i : Nat, vi = .int .i64 i ∧ i ≤ n ∧ n - i ≤ g ∧ Aside (wr.ownsRow (w.heap.size + 1) 34 2 vo i (cells2 (stablyP lt (d.toList.take i))) ∧ Below w.heap.size w wr ∧ BoxO wr w.heap.size ⟨k, s, m0, m1, m2⟩))
  case atStart => exact ⟨0, rfl, Nat.zero_le _, by omega, World.ownsRow_nil _ _ _ _, B0.out, K0.out⟩
  case round =>
    clear B0 K0
    obtain ⟨i, rfl, hin, hg, HO⟩ := hrel
    by_cases hlt : i < n
    · have hltz : (i : Int) < (n : Int) := by omega
      obtain ⟨hd, hn⟩ := HD.out
      obtain ⟨ho, hb, hk⟩ := HO.out
      obtain ⟨blk, off, rfl, hbl, hc⟩ := hd (by omega)
      obtain ⟨⟨x1, x2⟩, hx⟩ : ∃ x : It, x = d[i]! := ⟨_, rfl⟩
      obtain ⟨c1, c2⟩ := hc i (by omega)
      rw [← hx] at c1 c2
      have q1 := (hb.cell (p := ⟨blk, off + i * 2, none⟩) hbl).trans c1
      have q2 := (hb.cell (p := ⟨blk, off + i * 2 + 1, none⟩) hbl).trans c2
      dsimp only at q1 q2
      obtain ⟨L, hL⟩ : ∃ L, L = stablyP lt (d.toList.take i) := ⟨_, rfl⟩
      have hLl : L.length = i := by rw [hL, length_stablyP, List.length_take, Array.length_toList]; omega
      have hnext : stablyP lt (d.toList.take (i + 1)) = insAt L (bsearch (fun m => !lt (x1, x2) L[m]!) 0 i) (x1, x2) := by
        rw [List.take_succ_eq_append_getElem (by simpa using (by omega : i < d.size)), stablyP_snoc, ← hL, hLl]
        have e : d.toList[i]'(by simpa using (by omega : i < d.size)) = (x1, x2) := by rw [hx, getElem!_pos d i (by omega)]; simp
        rw [e]
      rw [← hL] at ho
      obtain ⟨X, hX⟩ : ∃ X, X = wr.alloc (.cells #[.int .i64 x1, .int .i64 x2] 34) := ⟨_, rfl⟩
      have BX0 : Below wr.heap.size wr X := by rw [hX]; exact below_alloc _ _
      have cx : X.cell? ⟨wr.heap.size, 0, none⟩ = some (.int .i64 x1) ∧ X.cell? ⟨wr.heap.size, 1, none⟩ = some (.int .i64 x2) := by
        rw [hX]
        have hb := heap_alloc_new wr (.cells #[.int .i64 x1, .int .i64 x2] 34)
        exact ⟨by unfold World.cell?; rw [hb]; rfl, by unfold World.cell?; rw [hb]; rfl⟩
      have NX : Aside (stablyP lt (d.toList.take (i + 1)) = insAt L (bsearch (fun m => !lt (x1, x2) L[m]!) 0 i) (x1, x2)) := hnext
      have HX : Aside (X.ownsRow (w.heap.size + 1) 34 2 u5 i (cells2 L) ∧ Below w.heap.size w X ∧ BoxO X w.heap.size ⟨k, s, m0, m1, m2⟩) := ⟨own_below ho BX0, Below.next hb BX0, hk.keep BX0⟩
      have CX : Aside (X.cell? ⟨wr.heap.size, 0, none⟩ = some (.int .i64 x1) ∧ X.cell? ⟨wr.heap.size, 1, none⟩ = some (.int .i64 x2)) := cx
      have HLL : Aside (L.length = i) := hLl
      have XB : Aside (wr.heap.size < X.heap.size) := by show _ < _; rw [hX]; simp
      have lenv : ∃ ra rc, u5 = .slice ra i rc ∧ ∀ b, (Value.slice ra i rc).ownBlock = some b → w.heap.size + 1 ≤ b ∧ b < wr.heap.size := by
        rcases ho.2 with ⟨h1, h2⟩ | ⟨g, rc, cur, h1, h2, h3, _⟩
        · subst h2; exact ⟨none, 0, h1, fun _ e => by cases e⟩
        · refine ⟨_, rc, h1, fun _ e => ?_⟩
          cases e
          refine ⟨h2, ?_⟩
          rcases Nat.lt_or_ge g wr.heap.size with h' | h'
          · exact h'
          · rw [Array.getElem?_eq_none h'] at h3; cases h3
      obtain ⟨ra, rc, rfl, hra⟩ := lenv
      have hXX : Aside _ := hX
      have RB : Aside _ := hra
      have RX : Aside (Rd2 X ra L.toArray) := by
        obtain ⟨h1, _, _⟩ := HX.out
        rw [← HLL.out] at h1
        obtain ⟨a', c', e, hr, _⟩ := own_holds h1
        cases e
        exact hr
      clear hd hn ho hb hk hbl hc c1 c2 hx hL hLl hnext BX0 cx HO hra
      go_wp2_with fail
      rw [← hXX.out]
      clear q1 q2 hXX hX
      generalize wr.heap.size = XN at CX XB RB ⊢
      go_loopg [8, 9] i (fun g2 vl vh wj => ∃ lo hi : Nat, vl = .int .i64 lo ∧ vh = .int .i64 hi ∧ lo ≤ hi ∧ hi ≤ i ∧ hi - lo ≤ g2 ∧ Aside (Below X.heap.size X wj) ∧ Hid (bsearch (fun m => !lt (x1, x2) L[m]!) lo hi = bsearch (fun m => !lt (x1, x2) L[m]!) 0 i))
      case atStart => exact ⟨0, i, rfl, rfl, Nat.zero_le _, Nat.le_refl _, by omega, Below.refl _ _, rfl⟩
      case round =>
        obtain ⟨lo, hi, rfl, rfl, hlh, hhi, hg2, Bj, HP⟩ := hrel
        by_cases hj : lo < hi
        · have hjz : (lo : Int) < (hi : Int) := by omega
          obtain ⟨M, hM⟩ : ∃ M, M = (lo + hi) / 2 := ⟨_, rfl⟩
          have hMz : ((lo : Int) + (hi : Int)) / 2 = (M : Int) := by omega
          have hM1 : lo ≤ M := by omega
          have hM2 : M < hi := by omega
          have HM : Aside (M = (lo + hi) / 2) := hM
          have hLl : L.length = i := HLL.out
          obtain ⟨bb, oo, rfl, hbl2, hc2⟩ := RX.out (by rw [List.size_toArray]; omega)
          obtain ⟨⟨y1, y2⟩, hy⟩ : ∃ y : It, y = L[M]! := ⟨_, rfl⟩
          obtain ⟨c3, c4⟩ := hc2 M (by rw [List.size_toArray]; omega)
          rw [show L.toArray[M]! = L[M]! by simp, ← hy] at c3 c4
          obtain ⟨_, _, hk⟩ := HX.out
          obtain ⟨_, k0, k1, k2, k3, k4⟩ := hk
          obtain ⟨cx1, cx2⟩ := CX.out
          have keep : ∀ q v, X.cell? q = some v → ∀ dd os, (grow (redrawn wr dd) os).cell? q = some v := fun q v hq => cell_regrown ((Bj.out.cell (block_lt_of_cell hq)).trans hq)
          have p0 := keep _ _ k0
          have p1 := keep _ _ k1
          have p2 := keep _ _ k2
          have p3 := keep _ _ k3
          have p4 := keep _ _ k4
          have r1 := keep _ _ cx1
          have r2 := keep _ _ cx2
          have r3 := keep _ _ c3
          have r4 := keep _ _ c4
          obtain ⟨c, hcc⟩ : ∃ c, c = lt (x1, x2) (y1, y2) := ⟨_, rfl⟩
          have hl : ∀ p : Regrown, Calls Try.prog 41 #[.agg #[.int .i64 k, .int .i64 s, .int .u64 m0, .int .u64 m1, .int .u64 m2], .agg #[.int .i64 x1, .int .i64 x2], .agg #[.int .i64 y1, .int .i64 y2]] (grow (redrawn wr p.d) p.os) fun e w'' => e = .returned (.bool c) ∧ ∃ p : Regrown, w'' = grow (redrawn wr p.d) p.os := fun p => by
            rw [hcc]; exact Calls.regrown_of (LC.out (x1, x2) (y1, y2) _)
          have HV : Aside ((!lt (x1, x2) L[M]!) = !c) := by show _ = _; rw [← hy, hcc]
          have mixed : Try.prog.follows .mixedOrders = true := by kernel_rfl
          have mz : (M : Int) < (i : Int) := by omega
          have wm : IntKind.i64.wrap (M : Int) = (M : Int) := by rw [IntKind.wrap_i64]; omega
          dsimp only at p0 p1 p2 p3 p4
          clear hM hbl2 hc2 hy c3 c4 k0 k1 k2 k3 k4 cx1 cx2 keep hcc
          go_wp2_with fail
          refine wp_region_quiet_below (by assumption) (by kernel_rfl) ?_
          repeat' (quiet_step (with_reducible exact hl _))
          all_goals
            refine wpQuiet_nil ?_
            intro _ hw'
            obtain ⟨⟨nq, osq⟩, hw''⟩ := hw'
            subst hw''
          have B2 : Aside _ := Below.next Bj.out (below_regrown wr nq osq)
          clear hl p0 p1 p2 p3 p4 r1 r2 r3 r4 Bj mixed wm
          cases c with
          | true =>
            go_wp2_with fail
            go_roundg (M - lo)
            case measure => omega
            case rel => exact ⟨lo, M, rfl, rfl, by omega, by omega, Nat.le_refl _, B2, by
              show _ = _
              rw [← HP.out]
              conv => rhs; rw [bsearch, dif_pos hj, ← HM.out, if_neg (by rw [HV.out]; exact Bool.false_ne_true)]⟩
          | false =>
            go_wp2_with fail
            go_roundg (hi - (M + 1))
            case measure => omega
            case rel => exact ⟨M + 1, hi, by go_num, rfl, by omega, by omega, Nat.le_refl _, B2, by
              show _ = _
              rw [← HP.out]
              conv => rhs; rw [bsearch, dif_pos hj, ← HM.out, if_pos (by rw [HV.out]; rfl)]⟩
        · have hjz : ¬ (lo : Int) < (hi : Int) := by omega
          obtain rfl : hi = lo := by omega
          have hPb : bsearch (fun m => !lt (x1, x2) L[m]!) 0 i = hi := by rw [← HP.out, bsearch, dif_neg (by omega)]
          have HPb : Aside _ := hPb
          clear hPb HP hlh
          have oj := own_below HX.out.1 Bj.out
          have O2 : Aside ((wr.alloc (.cells #[.int .i64 0, .int .i64 0] 34)).ownsRow (w.heap.size + 1) 34 2 (.slice ra i rc) i (cells2 L)) := own_below oj (below_alloc _ _)
          have BW : Aside (Below w.heap.size w (wr.alloc (.cells #[.int .i64 0, .int .i64 0] 34))) := Below.next (Below.next HX.out.2.1 Bj.out) (below_alloc _ _)
          have KW : Aside (BoxO (wr.alloc (.cells #[.int .i64 0, .int .i64 0] 34)) w.heap.size ⟨k, s, m0, m1, m2⟩) := (HX.out.2.2.keep Bj.out).keep (below_alloc _ _)
          have hXs : X.heap.size ≤ wr.heap.size := Bj.out.size
          have CW : Aside ((wr.alloc (.cells #[.int .i64 0, .int .i64 0] 34)).cell? ⟨XN, 0, none⟩ = some (.int .i64 x1) ∧ (wr.alloc (.cells #[.int .i64 0, .int .i64 0] 34)).cell? ⟨XN, 1, none⟩ = some (.int .i64 x2)) :=
            ⟨((Below.next Bj.out (below_alloc _ _)).cell (by exact XB.out)).trans CX.out.1, ((Below.next Bj.out (below_alloc _ _)).cell (by exact XB.out)).trans CX.out.2⟩
          have SZ : Aside (XN < wr.heap.size ∧ w.heap.size + 1 ≤ (wr.alloc (.cells #[.int .i64 0, .int .i64 0] 34)).heap.size) := ⟨Nat.lt_of_lt_of_le XB.out hXs, by have := BW.out.size; have := HX.out.2.1.size; simp; omega⟩
          obtain ⟨hii, hz0, hz1, hz2⟩ := hI.out
          clear oj hXs Bj
          have G1 : Aside (∀ j u, ([.int .i64 0, .int .i64 0] : List Value)[j]? = some u → (wr.alloc (.cells #[.int .i64 0, .int .i64 0] 34)).cell? ((⟨wr.heap.size, 0, none⟩ : Addr).add j) = some u) := World.news_of_block (heap_alloc_new wr (.cells #[.int .i64 0, .int .i64 0] 34))
          have G2 : Aside (∀ u ∈ ([.int .i64 0, .int .i64 0] : List Value), u.oneCell' = true) := fun u hu => by simp at hu; subst hu; rfl
          have G3 : Aside (i + 1 ≤ maxLen ∧ (i + 1) * 16 ≤ 140737488355328) := ⟨by unfold maxLen; omega, by omega⟩
          go_upto_region 12 with (at_builtin; refine wpList_append_lies _ rfl _ _ 22 rfl (w.heap.size + 1) 34 i0 (.agg #[.int .i64 0, .int .i64 0]) 2 16 Try.underlying22 hii hz0 hz1 hz2 rfl (by decide) _ i _ rfl O2.out ⟨wr.heap.size, 0, none⟩ 1 1 [.int .i64 0, .int .i64 0] rfl rfl G1.out G2.out (by decide) G3.out.1 G3.out.2 SZ.out.2 _ rfl ?_; intro g rcap w1 hown hgrow hat hlt; have A1 : Aside _ := hown; have A2 : Aside _ := hgrow; have A3 : Aside _ := hat; have A4 : Aside _ := hlt; clear hown hgrow hat hlt)
          clear hii hz0 hz1 hz2 G1 G2 G3
          obtain ⟨hl1, ⟨_, h0⟩ | ⟨g', rcap', cur, e1, hgb, hgc, hnc, hcm, hcs, ht⟩⟩ := A1.out
          · omega
          · cases e1
            have hne1 : some XN ≠ (Value.slice ra i rc).ownBlock := fun e => by have := RB.out XN e.symm; omega
            have hne2 : some w.heap.size ≠ (Value.slice ra i rc).ownBlock := fun e => by have := RB.out _ e.symm; omega
            have hgx : g ≠ XN := by
              rcases A3.out with h | h
              · have := RB.out g h; omega
              · have h2 := SZ.out.1; rw [h]; simp; omega
            have lt1 : XN < (wr.alloc (.cells #[.int .i64 0, .int .i64 0] 34)).heap.size := by have := SZ.out.1; simp; omega
            have x1c := (A2.out.cell_far ⟨XN, 0, none⟩ lt1 hne1).trans CW.out.1
            have x2c := (A2.out.cell_far ⟨XN, 1, none⟩ lt1 hne1).trans CW.out.2
            obtain ⟨kw0, kc0, kc1, kc2, kc3, kc4⟩ := KW.out
            have K1 : Aside (BoxO w1 w.heap.size ⟨k, s, m0, m1, m2⟩) := ⟨Nat.lt_of_lt_of_le kw0 A2.out.size, (A2.out.cell_far ⟨_, 0, none⟩ kw0 hne2).trans kc0, (A2.out.cell_far ⟨_, 1, none⟩ kw0 hne2).trans kc1, (A2.out.cell_far ⟨_, 2, none⟩ kw0 hne2).trans kc2, (A2.out.cell_far ⟨_, 3, none⟩ kw0 hne2).trans kc3, (A2.out.cell_far ⟨_, 4, none⟩ kw0 hne2).trans kc4⟩
            have B1 : Aside (Below w.heap.size w w1) := own_grown O2.out BW.out (by omega) A2.out
            have hLl : L.length = i := HLL.out
            obtain ⟨zs, hzs⟩ : ∃ zs, zs = cur.toList.drop ((i + 1) * 2) := ⟨_, rfl⟩
            have hcur : cur.toList = cells2 (L ++ [(0, 0)]) ++ zs := by
              rw [hzs, cells2_append]
              conv => lhs; rw [← List.take_append_drop ((i + 1) * 2) cur.toList, ht]
              rfl
            have hcl : cur.toList.length = rcap * 2 := by simpa using hcs
            have hrow1 : w1.drew.heap[g]? = some (.cells cur.toList.toArray 34 (0, 0)) := by rw [show w1.drew.heap = w1.heap from rfl, Array.toArray_toList]; exact hgc
            obtain ⟨w2, hr, CT⟩ := run_copy2 (P := Try.prog) w1.drew 22 22 3 34 (if rcap = hi + 1 then some ⟨g, 0, none⟩ else some ⟨g, (hi + 1) * 2, none⟩) (if rcap = hi then some ⟨g, 0, none⟩ else some ⟨g, hi * 2, none⟩) (i - hi) (rcap - (hi + 1)) (i + 1 - hi) (rcap - hi) g ((hi + 1) * 2) cur.toList 34 (cells2 (L.drop hi))
              Try.underlying22 (by rw [hI.out.1]; simp [hI.out.2.2.1]) hrow1 (by rw [cells2_length, List.length_drop, hLl, show Nat.min (i + 1 - hi) (i - hi) = i - hi from Nat.min_eq_right (by omega)]) (fun h0 => by
                rw [cells2_length, List.length_drop, hLl] at h0
                refine ⟨if_neg (by omega), ⟨g, hi * 2, none⟩, if_neg (by omega), fun j u hu => ?_⟩
                rw [Addr.add_lit, cell_of_row w1.drew g (hi * 2 + j) cur 34 (0, 0) (by rw [show w1.drew.heap = w1.heap from rfl]; exact hgc)]
                rw [← cells2_drop, List.getElem?_drop] at hu
                have hj := (List.getElem?_eq_some_iff.1 hu).1
                have : cur.toList[hi * 2 + j]? = some u := by
                  rw [hcur, cells2_append, List.append_assoc, List.getElem?_append_left hj]; exact hu
                simpa using this) (by rw [cells2_length, List.length_drop, hLl, hcl]; omega) (cells2_one _)
            have HCT : Aside _ := CT
            have HCU : Aside (cur.toList = cells2 (L ++ [(0, 0)]) ++ zs ∧ cur.toList.length = rcap * 2 ∧ i + 1 ≤ rcap ∧ rcap ≤ maxLen ∧ w.heap.size + 1 ≤ g) := ⟨hcur, hcl, hnc, hcm, hgb⟩
            have X1 : Aside (w1.cell? ⟨XN, 0, none⟩ = some (.int .i64 x1) ∧ w1.cell? ⟨XN, 1, none⟩ = some (.int .i64 x2)) := ⟨x1c, x2c⟩
            have HGX : Aside (g ≠ XN) := hgx
            have sl1 : (hi : Int) + 1 ≤ (i : Int) + 1 := by omega
            have sl2 : (hi : Int) ≤ (i : Int) + 1 := by omega
            have sw1 : IntKind.i64.wrap ((hi : Int) + 1) = (hi : Int) + 1 := by rw [IntKind.wrap_i64]; omega
            have sw2 : IntKind.i64.wrap (hi : Int) = (hi : Int) := by rw [IntKind.wrap_i64]; omega
            have st1 : ((hi : Int) + 1).toNat = hi + 1 := by omega
            have sp1 : (0 : Int) ≤ (hi : Int) + 1 := by omega
            have HR : Aside _ := hr
            clear hl1 hgb hgc hnc hcm hcs ht hne1 hne2 hgx lt1 x1c x2c kw0 kc0 kc1 kc2 kc3 kc4 hcur hcl hrow1 CT hzs hr
            refine wp_region_still_mid 7 (by kernel_rfl) (by kernel_rfl) ?_
            intro Q1 hQ1
            simp only [List.take_succ_cons, List.take_zero, List.drop_succ_cons, List.drop_zero] at hQ1 ⊢
            have HQ : Aside _ := hQ1
            clear hQ1
            repeat still_step
            refine wpStill_nil ?_
            change wpList _ _ _ _ _ w1.drew
            refine wpList_copy_eq rfl _ _ _ _ rfl _ _ _ _ rfl rfl HR.out ?_
            refine HQ.out _ _ ?_
            refine wpStill_nil ?_
            have hLl : L.length = i := HLL.out
            obtain ⟨M, hM⟩ : ∃ M, M = (L ++ [(0, 0)]).take (hi + 1) ++ (L.drop hi ++ (L ++ [(0, 0)]).drop (hi + 1 + (L.drop hi).length)) := ⟨_, rfl⟩
            have hMx : M.set hi (x1, x2) = insAt L hi (x1, x2) := by rw [hM]; exact shift_insAt L hi (x1, x2) (0, 0) (by omega)
            have hMl : M.length = i + 1 := by
              have h1 := congrArg List.length hMx
              rw [List.length_set, length_insAt _ _ _ (by omega), hLl] at h1
              exact h1
            have hrow := HCT.out.row
            rw [HCU.out.1, splice_shift L hi (0, 0) zs (by omega), ← hM] at hrow
            have hk1 : hi * 2 < (cells2 M).length := by rw [cells2_length]; omega
            have hk2 : hi * 2 + 1 < (cells2 M).length := by rw [cells2_length]; omega
            have cell2 : ∀ q, q < (cells2 M).length → ∃ u, w2.cell? ⟨g, q, none⟩ = some u := fun q hq => by
              refine ⟨(cells2 M)[q], ?_⟩
              rw [cell_of_row w2 g q _ 34 (0, 0) hrow]
              simp only [List.getElem?_toArray]
              rw [List.getElem?_append_left hq, List.getElem?_eq_getElem hq]
            have fz : ∀ q, w2.frozen? ⟨g, q, none⟩ = false := fun q => by unfold World.frozen?; rw [hrow]; simp
            obtain ⟨v1, e1⟩ := cell2 (hi * 2) hk1
            obtain ⟨v2, e2'⟩ := cell2 (hi * 2 + 1) hk2
            have e2 : (w2.setCell ⟨g, hi * 2, none⟩ (.int .i64 x1)).cell? ⟨g, hi * 2 + 1, none⟩ = some v2 := by rw [cell_set (by rw [e1]; rfl), if_neg (by omega)]; exact e2'
            have f1 := fz (hi * 2)
            have f2 := fz (hi * 2 + 1)
            have xo := HCT.out.other XN (Ne.symm HGX.out)
            have y1 : w2.cell? ⟨XN, 0, none⟩ = some (.int .i64 x1) := (World.cell?_of_block xo).trans X1.out.1
            have y2 : w2.cell? ⟨XN, 1, none⟩ = some (.int .i64 x2) := (World.cell?_of_block xo).trans X1.out.2
            have hrow5 := row_set (i := hi * 2 + 1) (row_set (i := hi * 2) hrow (.int .i64 x1)) (.int .i64 x2)
            have O5 : Aside (((w2.setCell ⟨g, hi * 2, none⟩ (.int .i64 x1)).setCell ⟨g, hi * 2 + 1, none⟩ (.int .i64 x2)).ownsRow (w.heap.size + 1) 34 2 (.slice (some ⟨g, 0, none⟩) (i + 1) rcap) (i + 1) (cells2 (stablyP lt (d.toList.take (i + 1))))) := by
              obtain ⟨_, hcl, hnc, hcm, hgb⟩ := HCU.out
              have hres : cells2 (stablyP lt (d.toList.take (i + 1))) = cells2 (M.set hi (x1, x2)) := by rw [NX.out, HPb.out, hMx]
              refine ⟨by rw [hres, cells2_length, List.length_set, hMl], Or.inr ⟨g, rcap, _, rfl, hgb, hrow5, hnc, hcm, ?_, ?_⟩⟩
              · have h1 : (cells2 M ++ zs).length = rcap * 2 := by
                  rw [hM, ← splice_shift L hi (0, 0) zs (by omega), ← HCU.out.1, length_splice _ _ _ (by rw [cells2_length, List.length_drop, hLl, hcl]; omega)]
                  exact hcl
                simpa using h1
              · rw [hres]
                simp only [Array.toList_setIfInBounds]
                rw [cells2_set M hi x1 x2 zs (by omega), List.take_append_of_le_length (by rw [cells2_length, List.length_set, hMl]; omega), List.take_of_length_le (by rw [cells2_length, List.length_set, hMl]; omega)]
            have B5 : Aside (Below w.heap.size w ((w2.setCell ⟨g, hi * 2, none⟩ (.int .i64 x1)).setCell ⟨g, hi * 2 + 1, none⟩ (.int .i64 x2))) :=
              (((HCT.out.below _ _ (below_drewN B1.out 1) (by have := HCU.out.2.2.2.2; omega)).setCell (by have := HCU.out.2.2.2.2; show w.heap.size ≤ g; omega) _).setCell (by have := HCU.out.2.2.2.2; show w.heap.size ≤ g; omega) _)
            have K5 : Aside (BoxO ((w2.setCell ⟨g, hi * 2, none⟩ (.int .i64 x1)).setCell ⟨g, hi * 2 + 1, none⟩ (.int .i64 x2)) w.heap.size ⟨k, s, m0, m1, m2⟩) := by
              have hgn : w.heap.size ≠ g := by have := HCU.out.2.2.2.2; omega
              have hbk : ((w2.setCell ⟨g, hi * 2, none⟩ (.int .i64 x1)).setCell ⟨g, hi * 2 + 1, none⟩ (.int .i64 x2)).heap[w.heap.size]? = w1.heap[w.heap.size]? := (Below.heap_setCell _ _ _ _ hgn).trans ((Below.heap_setCell _ _ _ _ hgn).trans (HCT.out.other _ hgn))
              obtain ⟨z0, zc0, zc1, zc2, zc3, zc4⟩ := K1.out
              exact ⟨by have h2 := HCT.out.size; simp; rw [h2]; exact z0, (World.cell?_of_block hbk).trans zc0, (World.cell?_of_block hbk).trans zc1, (World.cell?_of_block hbk).trans zc2, (World.cell?_of_block hbk).trans zc3, (World.cell?_of_block hbk).trans zc4⟩
            have iz : (hi : Int) < (i : Int) + 1 := by omega
            clear hLl hM hMx hMl hrow hk1 hk2 cell2 fz e2' xo hrow5 HCT HCU X1 HR HQ B1 K1 A1 A2 A3 A4
            go_wp2_with fail
            all_goals
              go_roundg (n - (i + 1))
              case measure => omega
              case rel => exact ⟨i + 1, by go_num, by omega, by omega, by first | exact O5.out | (have h5 := O5.out; rw [show rcap = hi + 1 by assumption] at h5; exact h5) | (have h5 := O5.out; rw [show rcap = hi by assumption] at h5; exact h5), B5.out, K5.out⟩
    · have hltz : ¬ (i : Int) < (n : Int) := by omega
      obtain rfl : i = n := by omega
      obtain ⟨h1, h2, _⟩ := HO.out
      have hd : d.toList.take i = d.toList := by rw [← HD.out.2, ← Array.length_toList, List.take_length]
      rw [hd] at h1
      have hl : (stablyP lt d.toList).length = i := by rw [length_stablyP, Array.length_toList]; exact HD.out.2
      have hres : ∃ ra rc, u5 = .slice ra i rc ∧ Rd2 wr ra (stablyP lt d.toList).toArray ∧ i ≤ rc := by
        have h1' := h1
        conv at h1' => rw [← hl]
        obtain ⟨a', c', e, hr, hh⟩ := own_holds h1'
        rw [hl] at e hh
        refine ⟨a', c', e, hr, ?_⟩
        rcases hh with hh | ⟨_, _, _, _, hh, _⟩
        · rw [e] at hh; injection hh with _ e1 e2; omega
        · exact hh
      obtain ⟨ra, rc, rfl, hr, hrc⟩ := hres
      have HF : Aside _ := And.intro hr (And.intro hrc h2)
      clear h1 hd hl hr hrc h2 HO
      go_wp2_with fail
      go_ret
      exact ⟨ra, rc, rfl, HF.out⟩
end Go.Proofs.Ytglgmkikegbchaa
