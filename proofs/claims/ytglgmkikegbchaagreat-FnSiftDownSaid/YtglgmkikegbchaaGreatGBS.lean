/- Texts of this claim, laid together: Copied, Ord, Join, Same, Base, Count, Len, WcSmall, Whole0, Perm, zKept, zArg, Works, Own2, zText, zInnerC, zNum, zDoes, zInnerO, zPerm, Nat, Face, zInnerF, zLaw, zMany, zOpen. -/
import Derived.Test.YtglgmkikegbchaaGreatWc0
import Derived.Deep.AppendSrc
import Derived.Test.YtglgmkikegbchaaGreatRows
import Derived.ProofKit
import Derived.OpenShut
import Derived.Deep.Slices
import Derived.Deep.SlicePairs
import Derived.BigQuiet
import Derived.Maps.RangeWalk
import Derived.Maps.Own
import Derived.WideKeyEntry
import Derived.DeepKeys4
import Derived.Shelf.Small.Bits
import Derived.Shelf.Strconv.Itoa0
import Derived.Test.YtglgmkikegbchaaGreatProg
import Derived.Test.YtglgmkikegbchaaGreatWcInsertionSort
import Derived.Defers
import Derived.Recover
import Derived.BigRegion
import Derived.Lib.QuietBelow
import Derived.Deep.RegionHeld3
import Derived.Laws.AppendOwn
import Derived.OwnWalk
import Derived.Maps.OwnOps
import Derived.Test.YtglgmkikegbchaaGreatWo0
import Derived.Test.YtglgmkikegbchaaGreatPd
import Derived.Test.YtglgmkikegbchaaGreatPb
import Derived.Sort.LotD4
import Derived.Sort.Walk13a
import Derived.Test.YtglgmkikegbchaaGreatWf0
/- copied makes a copy of a list. -/
namespace Go.Proofs.YtglgmkikegbchaaGreat
open Go.RowKit Go.Sort

/-- A slice of elements that is read: its address, its elements. (An empty one may lie anywhere.) -/
def Rd2 (w : World) (a : Option Addr) (d : Array It) : Prop := 0 < d.size → ∃ blk off, a = some ⟨blk, off, none⟩ ∧ blk < w.heap.size ∧ ∀ i, i < d.size →
  w.cell? ⟨blk, off + i * 2, none⟩ = some (.int .i64 d[i]!.1) ∧ w.cell? ⟨blk, off + i * 2 + 1, none⟩ = some (.int .i64 d[i]!.2)

theorem Rd2.below {B : Nat} {w w' : World} {a : Option Addr} {d : Array It} (h : Rd2 w a d) (hb : Below B w w') (hB : w.heap.size ≤ B) : Rd2 w' a d := fun h0 => by
  obtain ⟨blk, off, e, hl, hc⟩ := h h0
  exact ⟨blk, off, e, Nat.lt_of_lt_of_le hl hb.size, fun i hi => ⟨(hb.cell (p := ⟨blk, off + i * 2, none⟩) (Nat.lt_of_lt_of_le hl hB)).trans (hc i hi).1, (hb.cell (p := ⟨blk, off + i * 2 + 1, none⟩) (Nat.lt_of_lt_of_le hl hB)).trans (hc i hi).2⟩⟩
theorem Rd2.grownBy {row : Option Nat} {w w' : World} {a : Option Addr} {d : Array It} (h : Rd2 w a d) (hg : w.grownBy w' row) (hr : ∀ blk off, a = some ⟨blk, off, none⟩ → some blk ≠ row) : Rd2 w' a d := fun h0 => by
  obtain ⟨blk, off, e, hl, hc⟩ := h h0
  exact ⟨blk, off, e, Nat.lt_of_lt_of_le hl hg.size, fun i hi => ⟨hg.cell (hc i hi).1 (hr _ _ e), hg.cell (hc i hi).2 (hr _ _ e)⟩⟩

/-- The elements' cells. -/
def cells2 : List It → List Value
  | [] => []
  | x :: r => .int .i64 x.1 :: .int .i64 x.2 :: cells2 r
theorem cells2_length : ∀ l : List It, (cells2 l).length = l.length * 2
  | [] => rfl
  | x :: r => by simp [cells2, cells2_length r]; omega
theorem cells2_fst : ∀ (l : List It) (i : Nat), i < l.length → (cells2 l)[i * 2]? = some (.int .i64 l[i]!.1)
  | [], i, h => by simp at h
  | x :: r, 0, _ => by simp [cells2]
  | x :: r, i + 1, h => by
    rw [show (i + 1) * 2 = i * 2 + 1 + 1 by omega]
    have := cells2_fst r i (by simpa using h)
    simpa [cells2] using this
theorem cells2_snd : ∀ (l : List It) (i : Nat), i < l.length → (cells2 l)[i * 2 + 1]? = some (.int .i64 l[i]!.2)
  | [], i, h => by simp at h
  | x :: r, 0, _ => by simp [cells2]
  | x :: r, i + 1, h => by
    rw [show (i + 1) * 2 + 1 = i * 2 + 1 + 1 + 1 by omega]
    have := cells2_snd r i (by simpa using h)
    simpa [cells2] using this
theorem cells2_one : ∀ (l : List It), ∀ u ∈ cells2 l, u.oneCell' = true
  | [], u, h => by simp [cells2] at h
  | x :: r, u, h => by
    simp only [cells2, List.mem_cons] at h
    rcases h with rfl | rfl | h
    · rfl
    · rfl
    · exact cells2_one r u h
theorem cells2_all (l : List It) (j : Nat) (u : Value) (h : (cells2 l)[j]? = some u) : ∃ i, i < l.length ∧ (j = i * 2 ∧ u = .int .i64 l[i]!.1 ∨ j = i * 2 + 1 ∧ u = .int .i64 l[i]!.2) := by
  have hj : j < l.length * 2 := by
    rw [← cells2_length]
    exact (List.getElem?_eq_some_iff.1 h).1
  refine ⟨j / 2, by omega, ?_⟩
  rcases Nat.mod_two_eq_zero_or_one j with e | e
  · left
    have e1 : j = j / 2 * 2 := by omega
    rw [e1, cells2_fst l (j / 2) (by omega)] at h
    exact ⟨e1, (Option.some.inj h).symm⟩
  · right
    have e1 : j = j / 2 * 2 + 1 := by omega
    rw [e1, cells2_snd l (j / 2) (by omega)] at h
    exact ⟨e1, (Option.some.inj h).symm⟩

theorem toList_get! (d : Array It) (i : Nat) : d.toList[i]! = d[i]! := by
  by_cases h : i < d.size
  · rw [getElem!_pos d i h, getElem!_pos d.toList i (by simpa using h)]; simp
  · rw [getElem!_neg d i h, getElem!_neg d.toList i (by simpa using h)]

theorem Rd2.src {P : Program} {tx e' : TypeId} (hk : P.underlying tx = some (.slice e')) {w : World} {a : Option Addr} {d : Array It} (h : Rd2 w a d) (c : Nat) : Src P 2 tx (.slice a d.size c) d.size (cells2 d.toList) w := by
  by_cases h0 : 0 < d.size
  · obtain ⟨blk, off, rfl, _, hc⟩ := h h0
    refine Src.ofSlice w hk _ _ _ _ (by rw [cells2_length]; simp) (fun j u hu => ?_) (cells2_one _)
    obtain ⟨i, hi, ⟨rfl, rfl⟩ | ⟨rfl, rfl⟩⟩ := cells2_all _ _ _ hu
    · rw [Addr.add_lit, toList_get!]; exact (hc i (by simpa using hi)).1
    · rw [Addr.add_lit, toList_get!, ← Nat.add_assoc]; exact (hc i (by simpa using hi)).2
  · have e0 : d.size = 0 := by omega
    have e1 : d.toList = [] := List.eq_nil_of_length_eq_zero (by simpa using e0)
    rw [e0, e1]
    cases a with
    | none => exact Src.ofNil w hk c
    | some ad => exact Src.ofSlice w hk ad 0 c [] rfl (fun j u hu => by simp at hu) (fun u hu => by simp at hu)

theorem holds2_new (w : World) (d : Array It) (z : Array Value) (e : TypeId) : Holds2 (w.alloc (.cells ((cells2 d.toList).toArray ++ z) e)) w.heap.size 0 d := fun i hi => by
  have hl : i < d.toList.length := by simpa using hi
  have hb : (w.alloc (.cells ((cells2 d.toList).toArray ++ z) e)).heap[w.heap.size]? = some (.cells ((cells2 d.toList).toArray ++ z) e (0, 0)) := heap_alloc_new w _
  have c : ∀ k u, (cells2 d.toList)[k]? = some u → (w.alloc (.cells ((cells2 d.toList).toArray ++ z) e)).cell? ⟨w.heap.size, 0 + k, none⟩ = some u := fun k u hu => by
    have hk := (List.getElem?_eq_some_iff.1 hu).1
    simp only [World.cell?, hb, Nat.zero_add]
    rw [Array.getElem?_append_left (by simpa using hk)]
    simpa using hu
  have f : ∀ k, (w.alloc (.cells ((cells2 d.toList).toArray ++ z) e)).frozen? ⟨w.heap.size, k, none⟩ = false := fun k => by
    simp only [World.frozen?, hb]
    simp
  exact ⟨by have := c _ _ (cells2_fst d.toList i hl); rwa [toList_get!] at this, by have := c _ _ (cells2_snd d.toList i hl); rwa [toList_get!] at this, f _, f _⟩

/-- What copied gives: a slice of its own that holds the elements. -/
def CopiedTo (w : World) (d : Array It) (v : Value) (w' : World) : Prop :=
  ∃ b cap, v = .slice (some ⟨b, 0, none⟩) d.size cap ∧ w.heap.size ≤ b ∧ b < w'.heap.size ∧ d.size ≤ cap ∧ Holds2 w' b 0 d ∧ Below w.heap.size w w'

theorem append_copy {P : Program} {t ty e : TypeId} {i : TypeInfo} (ht : P.underlying t = some (.slice e)) (hi : P.info? e = some i) (hz : i.zero = some (.agg #[.int .i64 0, .int .i64 0])) (hsize : i.size = 2) (hby : i.bytes = 16)
    (w : World) (a : Option Addr) (cap : Nat) (d : Array It) (h : Rd2 w a d) (hsz : d.size ≤ 2000) (E : TypeId) :
    ∃ v w', (Builtin.append_ #[t, t] ty #[.slice (some ⟨w.heap.size, 0, none⟩) 0 0, .slice a d.size cap]).run P (w.alloc (.cells #[] E)) = .ok v w' ∧ CopiedTo w d v w' := by
  have hb0 : Below w.heap.size w (w.alloc (.cells #[] E)) := (Below.refl _ w).alloc (Nat.le_refl _) _
  have h' : Rd2 (w.alloc (.cells #[] E)) a d := h.below hb0 (Nat.le_refl _)
  have hs : Src P i.size t (.slice a d.size cap) d.size (cells2 d.toList) (w.alloc (.cells #[] E)) := by rw [hsize]; exact h'.src ht cap
  by_cases h0 : 0 < d.size
  · have hr := run_append_grow_src (P := P) (w.alloc (.cells #[] E)) t t ty e i _ ht hi hz (some ⟨w.heap.size, 0, none⟩) 0 0 []
      (run_firstCells_some _ _ _ _ _ _ _ (by simp) (fun j u hu => by simp at hu)) (.slice a d.size cap) d.size _ hs (by omega) (by omega) (growslice_fits (by omega) (by rw [hby]; omega))
    simp only [Nat.zero_add, List.nil_append] at hr
    refine ⟨_, _, hr, w.heap.size + 1, grownCap (w.alloc (.cells #[] E)) d.size 0 e, by simp, by omega, by simp, ?_, ?_, ?_⟩
    · have := grownCap_ge (w.alloc (.cells #[] E)) (0 + d.size) 0 e
      simpa using this
    · have := holds2_new (w.alloc (.cells #[] E)).drew d (Builtin.zeroCells (Value.agg #[.int .i64 0, .int .i64 0]).cells (grownCap (w.alloc (.cells #[] E)) d.size 0 e - d.size)) e
      simpa using this
    · exact (hb0.drew).alloc (by simp) _
  · have e0 : d.size = 0 := by omega
    have hr := run_append_room_src (P := P) (w.alloc (.cells #[] E)) t t ty e i ht hi w.heap.size 0 0 0 (.slice a d.size cap) d.size _ hs (by omega)
      (fun j hj => by rw [cells2_length] at hj; simp at hj; omega) (fun j hj => by rw [cells2_length] at hj; simp at hj; omega)
    have e1 : cells2 d.toList = [] := List.eq_nil_of_length_eq_zero (by rw [cells2_length]; simp; omega)
    rw [e1] at hr
    refine ⟨_, _, hr, w.heap.size, 0, by simp, Nat.le_refl _, by simp [World.setCells], by omega, fun k hk => by omega, hb0⟩

/-- An append whose run is known, met in the walk. -/
theorem wpList_append_eq {P : Program} {ops : Array Oper} {rest : List Oper} {o : Oper} {a : Act} {Q : Exit → Act → World → Prop} {w : World} (hgd : o.guard = none) (s x : Operand) (t : TypeId)
    (ho : o.op = .call { callee := .builtin .append, args := #[s, x], argTypes := #[t, t] }) (sv xv v : Value) (w' : World) (hs : a.eval s = sv) (hx : a.eval x = xv)
    (hr : (Builtin.append_ #[t, t] o.type #[sv, xv]).run P w = .ok v w') (h : wpList P ops Q rest (a.put o.dst v) w') : wpList P ops Q (o :: rest) a w :=
  wpList_plain hgd fun _ hK => by
    unfold Oper.wp execOp
    simp only [ho, resolve, invoke, builtin, Sem.run_bind, Sem.run_pure, Result.andThen_ok, List.map_toArray, List.map_cons, List.map_nil, hs, hx, hr]
    exact hK _ _ h

set_option maxHeartbeats 1000000 in
set_option maxRecDepth 100000 in
theorem copied_calls (a : Option Addr) (cap : Nat) (d : Array It) (w : World) (h : Rd2 w a d) (hsz : d.size ≤ 2000) :
    Calls Tryz.prog 41 #[.slice a d.size cap] w fun e w' => ∃ v, e = .returned v ∧ CopiedTo w d v w' := by
  obtain ⟨i0, hi, hz0, hz1, hz2⟩ := info_parts (show (Tryz.prog.info? 49).map (fun i => (i.zero, i.size, i.bytes)) = some (some (.agg #[.int .i64 0, .int .i64 0]), 2, 16) by kernel_rfl)
  have hap : Aside (∃ v w', (Builtin.append_ #[22, 22] 22 #[.slice (some ⟨w.heap.size, 0, none⟩) 0 0, .slice a d.size cap]).run Tryz.prog (w.alloc (.cells #[] 49)) = .ok v w' ∧ CopiedTo w d v w') :=
    append_copy (P := Tryz.prog) Tryz.underlying22 hi hz0 hz1 hz2 w a cap d h hsz 49
  clear h hi hz0 hz1 hz2
  go_enter Tryz.func41, Tryz.ntmps41
  go_wp2_with (at_builtin; obtain ⟨v, w', hr, hc⟩ := hap.out; refine wpList_append_eq rfl _ _ _ rfl _ _ _ _ rfl rfl hr ?_; have HC : Aside _ := hc; clear hc hr)
  go_ret
  exact ⟨v, rfl, HC.out⟩
end Go.Proofs.YtglgmkikegbchaaGreat

/- Orders: what (Order).compared says of two elements. -/
namespace Go.Proofs.YtglgmkikegbchaaGreat
open Go.RowKit Go.Sort

/-- An order, as data. -/
structure Ordr where
  kind : Int
  shift : Int
  m0 : Int
  m1 : Int
  m2 : Int

abbrev vOrd (o : Ordr) : Value := .agg #[.int .i64 o.kind, .int .i64 o.shift, .int .u64 o.m0, .int .u64 o.m1, .int .u64 o.m2]

/-- -1, 0 or 1: of two numbers. -/
def sg (a b : Int) : Int := if a < b then -1 else if b < a then 1 else 0

theorem of_calls (a b : Int) (w : World) : Calls Tryz.prog 79 #[.int .i64 a, .int .i64 b] w fun e w' => e = .returned (.int .i64 (sg a b)) ∧ w' = w := by
  unfold sg
  by_cases h : a < b
  · rw [if_pos h]
    go_enter Tryz.func79, Tryz.ntmps79
    go_wp2
    go_ret
    exact ⟨rfl, rfl⟩
  · rw [if_neg h]
    by_cases h2 : b < a
    · rw [if_pos h2]
      go_enter Tryz.func79, Tryz.ntmps79
      go_wp2
      go_ret
      exact ⟨rfl, rfl⟩
    · rw [if_neg h2]
      go_enter Tryz.func79, Tryz.ntmps79
      go_wp2
      go_ret
      exact ⟨rfl, rfl⟩

theorem grow3 (W : World) (a b c : Obj) (n : Nat) : (((W.alloc a).alloc b).alloc c).drewN n = grow (W.drewN n) #[a, b, c] := by
  rw [alloc_eq_grow, alloc_eq_grow, alloc_eq_grow, grow_grow, grow_grow]
  rfl
theorem grow3' (W : World) (a b c : Obj) : ∃ q os, ((W.alloc a).alloc b).alloc c = grow (W.drewN q) os := ⟨0, _, grow3 W a b c 0⟩

/-- What comes of comparing where there is no order. -/
def wildC (m0 m1 m2 x y : Int) : Int :=
  wrap64 (wrap64 ((IntKind.u64.wrap (IntKind.u64.wrap (IntKind.u64.wrap (IntKind.u64.wrap x * m0) + IntKind.u64.wrap (IntKind.u64.wrap y * m1)) + m2) / 8589934592).tmod 3) - 1)

/-- How two elements are compared in an order. -/
def cfO (o : Ordr) (x y : It) : Int :=
  if o.kind = 1 then sg y.1 x.1 else if o.kind = 2 then sg (x.1 / 2 ^ o.shift.toNat) (y.1 / 2 ^ o.shift.toNat) else if o.kind = 3 then wildC o.m0 o.m1 o.m2 x.1 y.1 else sg x.1 y.1

set_option maxHeartbeats 1000000 in
theorem cmp_up (o : Ordr) (hk1 : o.kind ≠ 1) (hk2 : o.kind ≠ 2) (hk3 : o.kind ≠ 3) (x y : It) (W : World) : Calls Tryz.prog 43 #[vOrd o, vIt x, vIt y] W fun e w' => e = .returned (.int .i64 (sg x.1 y.1)) ∧ ∃ q os, w' = grow (W.drewN q) os := by
  obtain ⟨k, s, m0, m1, m2⟩ := o
  obtain ⟨x1, x2⟩ := x
  obtain ⟨y1, y2⟩ := y
  dsimp only at hk1 hk2 hk3
  have a1 : (k == 1) = false := by simpa using hk1
  have a2 : (k == 2) = false := by simpa using hk2
  have a3 : (k == 3) = false := by simpa using hk3
  clear hk1 hk2 hk3
  go_enter Tryz.func43, Tryz.ntmps43
  go_wp2_with fail
  refine (of_calls x1 y1 _).mono ?_
  rintro e w' ⟨rfl, rfl⟩
  go_wp2_with fail
  go_ret
  exact ⟨rfl, grow3' _ _ _ _⟩

set_option maxHeartbeats 1000000 in
theorem cmp_down (o : Ordr) (hk1 : o.kind = 1) (x y : It) (W : World) : Calls Tryz.prog 43 #[vOrd o, vIt x, vIt y] W fun e w' => e = .returned (.int .i64 (sg y.1 x.1)) ∧ ∃ q os, w' = grow (W.drewN q) os := by
  obtain ⟨k, s, m0, m1, m2⟩ := o
  obtain ⟨x1, x2⟩ := x
  obtain ⟨y1, y2⟩ := y
  dsimp only at hk1
  subst hk1
  go_enter Tryz.func43, Tryz.ntmps43
  go_wp2_with fail
  refine (of_calls y1 x1 _).mono ?_
  rintro e w' ⟨rfl, rfl⟩
  go_wp2_with fail
  go_ret
  exact ⟨rfl, grow3' _ _ _ _⟩

set_option maxHeartbeats 1000000 in
theorem cmp_parts (o : Ordr) (hk1 : o.kind = 2) (h0 : 0 ≤ o.shift) (h63 : o.shift < 64) (x y : It) (W : World) : Calls Tryz.prog 43 #[vOrd o, vIt x, vIt y] W fun e w' => e = .returned (.int .i64 (sg (x.1 / 2 ^ o.shift.toNat) (y.1 / 2 ^ o.shift.toNat))) ∧ ∃ q os, w' = grow (W.drewN q) os := by
  obtain ⟨k, s, m0, m1, m2⟩ := o
  obtain ⟨x1, x2⟩ := x
  obtain ⟨y1, y2⟩ := y
  dsimp only at hk1 h0 h63
  subst hk1
  have g1 : ¬ s < 0 := by omega
  have g2 : ¬ 63 < s := by omega
  obtain ⟨n, rfl⟩ := Int.eq_ofNat_of_zero_le h0
  dsimp only
  rw [Int.toNat_natCast]
  go_enter Tryz.func43, Tryz.ntmps43
  go_wp2_with fail
  go_quiet ((go_at_call 79; exact Calls.quiet_of_same (of_calls _ _ _)))
  go_wp2_with fail
  go_ret
  exact ⟨rfl, nq, _, grow3 _ _ _ _ _⟩

set_option maxHeartbeats 1000000 in
theorem cmp_wild (o : Ordr) (hk1 : o.kind = 3) (x y : It) (W : World) : Calls Tryz.prog 43 #[vOrd o, vIt x, vIt y] W fun e w' => e = .returned (.int .i64 (wildC o.m0 o.m1 o.m2 x.1 y.1)) ∧ ∃ q os, w' = grow (W.drewN q) os := by
  obtain ⟨k, s, m0, m1, m2⟩ := o
  obtain ⟨x1, x2⟩ := x
  obtain ⟨y1, y2⟩ := y
  dsimp only at hk1
  subst hk1
  go_enter Tryz.func43, Tryz.ntmps43
  go_wp2_with fail
  go_ret
  exact ⟨rfl, grow3' _ _ _ _⟩

theorem cmpC_of (o : Ordr) (h0 : 0 ≤ o.shift) (h63 : o.shift < 64) : CmpC (vOrd o) (cfO o) := fun x y W => by
  unfold cfO
  by_cases k1 : o.kind = 1
  · rw [if_pos k1]; exact cmp_down o k1 x y W
  · rw [if_neg k1]
    by_cases k2 : o.kind = 2
    · rw [if_pos k2]; exact cmp_parts o k2 h0 h63 x y W
    · rw [if_neg k2]
      by_cases k3 : o.kind = 3
      · rw [if_pos k3]; exact cmp_wild o k3 x y W
      · rw [if_neg k3]; exact cmp_up o k1 k2 k3 x y W
end Go.Proofs.YtglgmkikegbchaaGreat

/- The rows' frame: a law that answers true and changes nothing of old. -/
namespace Go.Proofs.YtglgmkikegbchaaGreat
open Go.ChangeShapes Go.WideShapes Go.ChangeAt Go.RowKit Go.Deep
set_option maxRecDepth 100000

theorem own : ownKnob Tryz.prog.godebug = none := by kernel_rfl
theorem kids : Kids Tryz.prog (· < Tryz.prog.types.size) := kids_rows (by kernel_rfl) (by kernel_rfl)
theorem full : ∀ t e, t < Tryz.prog.types.size → Tryz.prog.underlying t = some (.slice e) → 0 < Tryz.prog.cellsOf e := slices_full_of Tryz.prog (by kernel_rfl)

section
variable {H : Type} {enc : TypeId × Value → H}

theorem sameAt_below {W W' : World} (h : Below W.heap.size W W') : ∀ p : MemPlace, p.block < W.heap.size → W.sameAt W' p
  | .cell b _, hp => World.cell?_of_block (h.block b hp)
  | .map b, hp => h.block b hp

theorem trodAll_below {W W' : World} {sp : Nat → Bool} : ∀ {ts : List TypeId} {vs : List Value} {ds : List (DataW H)} {ps : List MemPlace}, DataW.TrodAll enc Tryz.prog W 0 sp true ts vs ds ps → (∀ p ∈ ps, W.sameAt W' p) → DataW.TrodAll enc Tryz.prog W' 0 sp true ts vs ds ps
  | [], [], [], _, h, _ => h
  | _ :: _, _ :: _, _ :: _, _, ⟨p, q, ⟨n, h1⟩, h2, e⟩, hs => ⟨p, q, ⟨n, DataW.trod_carry n _ _ _ h1 (fun x hx => hs x (by rw [e]; exact List.mem_append_left _ hx))⟩, trodAll_below h2 (fun x hx => hs x (by rw [e]; exact List.mem_append_right _ hx)), e⟩

theorem keptBut_below {W W' : World} (h : Below W.heap.size W W') (may : MemPlace → Prop) : W.keptBut W' may := ⟨h.os, h.output, fun i hi => by
  rw [h.block i hi]
  cases hb : W.heap[i]? with
  | none => rfl
  | some o => cases o <;> first | rfl | exact ⟨rfl, rfl, rfl, fun _ _ => rfl⟩ | exact Or.inr ⟨rfl, rfl⟩⟩

/-- What is asked behind a law that answers true. -/
theorem post_true {f : Func} {s : ChangeSpec} {W W' : World} {args : Array Value} {ds gs : List (DataW H)} {before : List MemPlace}
    (hW : DataW.Whole enc Tryz.prog f.params.toList s.vars false W args.toList ds gs before) (hv : s.vars = []) (hts : ∀ t ∈ f.params.toList, t < Tryz.prog.types.size) (hrt : f.resultTypes = #[4])
    (hfn : s.fn H ds = { results := [.lit (.bool true)], args := ds }) (hB : Below W.heap.size W W') :
    s.post enc Tryz.prog f false true false false W args (.bool true) W' := by
  obtain ⟨p, q, hA, hV, rfl, hz, hn⟩ := hW
  obtain ⟨nm, vs, fn⟩ := s
  obtain rfl : vs = [] := hv
  obtain ⟨rfl, rfl⟩ := trodVars_none hV
  have hlt := hA.lt
  have hA' : DataW.TrodAll enc Tryz.prog W' 0 (fun _ => true) true f.params.toList args.toList ds p := trodAll_below hA (fun x hx => sameAt_below hB x (hlt x hx))
  have hsz : f.resultTypes.size = 1 := by rw [hrt]; rfl
  have hR : ∀ (b : Nat) (sp : Nat → Bool) (hd : Bool), DataW.TrodAll enc Tryz.prog W' b sp hd f.resultTypes.toList ((Value.bool true).resultList f.resultTypes.size) [.lit (.bool true)] [] := fun b sp hd => by
    rw [hrt]
    exact trodAll_mk1 (shut_bool Tryz.underlying4 true)
  refine ⟨ds, [], p ++ [], [], p, [], ⟨p, [], hA, hV, rfl, hz, hn⟩, ?_, ?_, ?_, keptBut_below hB _, fun h => by cases h⟩
  · rw [List.append_nil, hfn]; exact hR _ _ _
  · rw [List.append_nil, hfn]; exact DataW.TrodAll.respare kids full hts hA' (fun x hx => by simpa using hlt x hx)
  · rw [List.append_nil, hfn]; rfl

/-- A list of elements, as an argument. -/
theorem open_items {W : World} {fuel : Nat} {a : Option Addr} {len cap : Nat} {x : DataW H × List MemPlace} (h : DataW.trod enc Tryz.prog W 0 (fun _ => true) true fuel 22 [.slice a len cap] = some x) :
    ∃ d : Array It, d.size = len ∧ Rd2 W a d ∧ (∀ i, i < len → -9223372036854775808 ≤ d[i]!.1 ∧ d[i]!.1 ≤ 9223372036854775807 ∧ -9223372036854775808 ≤ d[i]!.2 ∧ d[i]!.2 ≤ 9223372036854775807) ∧ len ≤ maxLen := by
  rcases open_slice_pairs Tryz.underlying22 Tryz.underlying49 (by kernel_rfl) rfl rfl (by kernel_rfl) (by kernel_rfl) h with ⟨hc, _⟩ | ⟨a', len', cap', m, n, V0, V1, D0, D1, P0, P1, hc, _, hl, hm, hmm, _, hall⟩
  · simp only [List.cons.injEq, and_true, Value.slice.injEq] at hc
    obtain ⟨rfl, rfl, rfl⟩ := hc
    exact ⟨#[], rfl, fun h => absurd h (by simp), fun i hi => absurd hi (by omega), by decide⟩
  · simp only [List.cons.injEq, and_true, Value.slice.injEq] at hc
    obtain ⟨rfl, rfl, rfl⟩ := hc
    simp only [if_true] at hmm
    subst hmm
    have hint : ∀ i, i < m → ∃ x y : Int, V0 i = .int .i64 x ∧ V1 i = .int .i64 y ∧ (Lit.int .i64 x).wf = true ∧ (Lit.int .i64 y).wf = true := fun i hi => by
      obtain ⟨x, h1, _, h3⟩ := DataW.trod_int Tryz.underlying2 (hall i hi).2.2.1
      obtain ⟨y, g1, _, g3⟩ := DataW.trod_int Tryz.underlying2 (hall i hi).2.2.2
      simp only [List.cons.injEq, and_true] at h1 g1
      exact ⟨x, y, h1, g1, h3, g3⟩
    let X : Nat → Int := fun i => if h : i < m then (hint i h).choose else 0
    let Y : Nat → Int := fun i => if h : i < m then (hint i h).choose_spec.choose else 0
    have hX : ∀ i, i < len → V0 i = .int .i64 (X i) ∧ V1 i = .int .i64 (Y i) ∧ (Lit.int .i64 (X i)).wf = true ∧ (Lit.int .i64 (Y i)).wf = true := fun i hi => by
      have hi' : i < m := by omega
      simp only [X, Y, dif_pos hi']
      exact (hint i hi').choose_spec.choose_spec
    let d : Array It := ((List.range len).map fun i => (X i, Y i)).toArray
    have hd : ∀ i, i < len → d[i]! = (X i, Y i) := fun i hi => by
      have : d[i]? = some (X i, Y i) := by simp [d, hi]
      rw [getElem!_def, this]
    refine ⟨d, by simp [d], fun h0 => ?_, fun i hi => ?_, by omega⟩
    · have h0' : 0 < len := by simpa [d] using h0
      obtain ⟨b, off, spot⟩ := a'
      have hspot : spot = none := by simpa [Addr.add] using World.cell?_spot (hall 0 (by omega)).1
      subst hspot
      refine ⟨b, off, rfl, ?_, fun i hi => ?_⟩
      · have := (hall 0 (by omega)).1
        exact World.block_lt_of_cell? _ _ this
      · have hi' : i < len := by simpa [d] using hi
        rw [hd i hi', ← (hX i hi').1, ← (hX i hi').2.1, Nat.add_assoc, ← Go.WideShapes.add_plain, ← Go.WideShapes.add_plain]
        exact ⟨(hall i (by omega)).1, (hall i (by omega)).2.1⟩
    · rw [hd i hi]
      have h1 := bounds_i64 (hX i hi).2.2.1
      have h2 := bounds_i64 (hX i hi).2.2.2
      exact ⟨h1.1, h1.2, h2.1, h2.2⟩

theorem open_i64 {w : World} {base : Nat} {t : TypeId} {v : Value} (ht : Tryz.prog.underlying t = some (.int .i64)) (h : Value.okWide Tryz.prog w .any base t v) : ∃ n, v = .int .i64 n ∧ -9223372036854775808 ≤ n ∧ n ≤ 9223372036854775807 := by
  simp only [Value.okWide, ht, Cell.okWide] at h
  cases v <;> simp_all [Cell.ok, IntKind.has, IntKind.min, IntKind.max, IntKind.signed, IntKind.bits]

theorem row_ok {w : World} {base : Nat} {t : TypeId} {v : Value} {fs : Array Field} {ts : List TypeId} (ht : Tryz.prog.underlying t = some (.struct fs)) (hts : Tryz.prog.cellTypes Tryz.prog.depth t = some ts) (hc : Tryz.prog.cellsOf t = ts.length) (h : Value.okWide Tryz.prog w .any base t v) :
    ∃ cs, v = .agg cs ∧ cs.size = ts.length ∧ ∀ (i : Nat) (v : Value) (u : TypeId), ts[i]? = some u → cs[i]? = some v → Cell.okWide Tryz.prog w .any base u v := by
  simp only [Value.okWide, ht] at h
  obtain ⟨cs, rfl, hs, ts', h1, _, h3⟩ := h
  rw [hts] at h1
  cases h1
  refine ⟨cs, rfl, hs.trans hc, fun i v u hu hv => ?_⟩
  obtain ⟨u', e, hk⟩ := h3 i v hv
  have hi : i < ts.length := (List.getElem?_eq_some_iff.1 hu).1
  rw [Nat.mod_eq_of_lt hi, hu] at e
  cases e
  exact hk

theorem cell_i64 {w : World} {base : Nat} {t : TypeId} {v : Value} (ht : Tryz.prog.underlying t = some (.int .i64)) (h : Cell.okWide Tryz.prog w .any base t v) : ∃ n, v = .int .i64 n ∧ -9223372036854775808 ≤ n ∧ n ≤ 9223372036854775807 := by
  simp only [ht, Cell.okWide] at h
  cases v <;> simp_all [Cell.ok, IntKind.has, IntKind.min, IntKind.max, IntKind.signed, IntKind.bits]
theorem cell_u64 {w : World} {base : Nat} {t : TypeId} {v : Value} (ht : Tryz.prog.underlying t = some (.int .u64)) (h : Cell.okWide Tryz.prog w .any base t v) : ∃ n, v = .int .u64 n ∧ 0 ≤ n ∧ n ≤ 18446744073709551615 := by
  simp only [ht, Cell.okWide] at h
  cases v <;> simp_all [Cell.ok, IntKind.has, IntKind.min, IntKind.max, IntKind.signed, IntKind.bits]

theorem open_order {w : World} {base : Nat} {v : Value} (h : Value.okWide Tryz.prog w .any base 26 v) : ∃ o : Ordr, v = vOrd o ∧ (-9223372036854775808 ≤ o.kind ∧ o.kind ≤ 9223372036854775807) ∧ (-9223372036854775808 ≤ o.shift ∧ o.shift ≤ 9223372036854775807) ∧ (0 ≤ o.m0 ∧ o.m0 ≤ 18446744073709551615) ∧ (0 ≤ o.m1 ∧ o.m1 ≤ 18446744073709551615) ∧ (0 ≤ o.m2 ∧ o.m2 ≤ 18446744073709551615) := by
  obtain ⟨cs, rfl, hz, hc⟩ := row_ok (ts := [3, 3, 23, 23, 23]) Tryz.underlying26 (by kernel_rfl) (by kernel_rfl) h
  obtain ⟨v0, v1, v2, v3, v4, rfl⟩ : ∃ v0 v1 v2 v3 v4, cs = #[v0, v1, v2, v3, v4] := by
    obtain ⟨l⟩ := cs
    match l, hz with
    | [v0, v1, v2, v3, v4], _ => exact ⟨v0, v1, v2, v3, v4, rfl⟩
  obtain ⟨k, rfl, hk⟩ := cell_i64 Tryz.underlying3 (hc 0 v0 _ rfl rfl)
  obtain ⟨s, rfl, hs⟩ := cell_i64 Tryz.underlying3 (hc 1 v1 _ rfl rfl)
  obtain ⟨m0, rfl, h0⟩ := cell_u64 Tryz.underlying23 (hc 2 v2 _ rfl rfl)
  obtain ⟨m1, rfl, h1⟩ := cell_u64 Tryz.underlying23 (hc 3 v3 _ rfl rfl)
  obtain ⟨m2, rfl, h2⟩ := cell_u64 Tryz.underlying23 (hc 4 v4 _ rfl rfl)
  exact ⟨⟨k, s, m0, m1, m2⟩, rfl, hk, hs, h0, h1, h2⟩

theorem open_item {w : World} {base : Nat} {v : Value} (h : Value.okWide Tryz.prog w .any base 49 v) : ∃ x : It, v = vIt x ∧ (-9223372036854775808 ≤ x.1 ∧ x.1 ≤ 9223372036854775807) ∧ (-9223372036854775808 ≤ x.2 ∧ x.2 ≤ 9223372036854775807) := by
  obtain ⟨cs, rfl, hz, hc⟩ := row_ok (ts := [2, 2]) Tryz.underlying49 (by kernel_rfl) (by kernel_rfl) h
  obtain ⟨v0, v1, rfl⟩ : ∃ v0 v1, cs = #[v0, v1] := by
    obtain ⟨l⟩ := cs
    match l, hz with
    | [v0, v1], _ => exact ⟨v0, v1, rfl⟩
  obtain ⟨k, rfl, hk⟩ := cell_i64 Tryz.underlying2 (hc 0 v0 _ rfl rfl)
  obtain ⟨s, rfl, hs⟩ := cell_i64 Tryz.underlying2 (hc 1 v1 _ rfl rfl)
  exact ⟨(k, s), rfl, hk, hs⟩
end
end Go.Proofs.YtglgmkikegbchaaGreat

/- spec.Same. -/
namespace Go.Proofs.YtglgmkikegbchaaGreat
open Go.RowKit Go.Sort

theorem same_step {d d' : Array It} {i : Nat} (_ : i < d.size) (_ : i < d'.size) (h : d[i]! ≠ d'[i]!) : decide (d = d') = false := decide_eq_false (fun e => h (by rw [e]))
theorem same_all {d d' : Array It} (hs : d.size = d'.size) (h : ∀ k, k < d.size → d[k]! = d'[k]!) : decide (d = d') = true := decide_eq_true (Array.ext hs (fun i h1 h2 => by
  have := h i h1
  rwa [getElem!_pos d i h1, getElem!_pos d' i h2] at this))

set_option maxHeartbeats 2000000 in
set_option maxRecDepth 1000000 in
theorem same_calls (a a' : Option Addr) (cap cap' : Nat) (d d' : Array It) (w : World) (h : Rd2 w a d) (h' : Rd2 w a' d') (hsz : d.size ≤ 2000) :
    Calls Tryz.prog 30 #[.slice a d.size cap, .slice a' d'.size cap'] w fun e w' => e = .returned (.bool (decide (d = d'))) ∧ ∃ q, w' = w.drewN q := by
  have H : Aside (Rd2 w a d) := h
  have H' : Aside (Rd2 w a' d') := h'
  clear h h'
  by_cases hs : d.size = d'.size
  case neg =>
    have hd : decide (d = d') = false := decide_eq_false (fun e => hs (by rw [e]))
    rw [hd]
    clear hd
    go_enter Tryz.func30, Tryz.ntmps30
    go_wp2
    go_ret
    exact ⟨rfl, 0, rfl⟩
  case pos =>
    have S' : Aside (d'.size = d.size) := hs.symm
    obtain ⟨n, hn⟩ : ∃ n, n = d.size := ⟨_, rfl⟩
    rw [← hs, ← hn]
    have N : Aside (n = d.size) := hn
    have hn2 : n ≤ 2000 := by omega
    obtain ⟨r, hr⟩ : ∃ r, r = decide (d = d') := ⟨_, rfl⟩
    rw [← hr]
    have R : Aside (r = decide (d = d')) := hr
    clear hs hn hr hsz
    go_enter Tryz.func30, Tryz.ntmps30
    go_wp2
    go_loopg [13] n (fun g v wr => ∃ (i q : Nat), v = .int .i64 i ∧ i ≤ n ∧ n - i ≤ g ∧ Aside (∀ k, k < i → d[k]! = d'[k]!) ∧ wr = w.drewN q)
    case atStart => exact ⟨0, 0, rfl, Nat.zero_le _, by omega, fun k hk => absurd hk (by omega), rfl⟩
    case round =>
      obtain ⟨i, q, rfl, hin, hg, HE, rfl⟩ := hrel
      by_cases hlt : i < n
      · have hltz : (i : Int) < (n : Int) := by omega
        have hN := N.out
        have hN' := S'.out
        obtain ⟨blk, off, rfl, _, hc⟩ := H.out (by omega)
        obtain ⟨blk', off', rfl, _, hc'⟩ := H'.out (by omega)
        obtain ⟨⟨x1, x2⟩, hx⟩ : ∃ x : It, x = d[i]! := ⟨_, rfl⟩
        obtain ⟨⟨y1, y2⟩, hy⟩ : ∃ y : It, y = d'[i]! := ⟨_, rfl⟩
        obtain ⟨c11, c12⟩ := hc i (by omega)
        obtain ⟨c21, c22⟩ := hc' i (by omega)
        rw [← hx] at c11 c12
        rw [← hy] at c21 c22
        dsimp only at c11 c12 c21 c22
        have q11 := fun k => (World.cell?_drewN w k ⟨blk, off + i * 2, none⟩).trans c11
        have q12 := fun k => (World.cell?_drewN w k ⟨blk, off + i * 2 + 1, none⟩).trans c12
        have q21 := fun k => (World.cell?_drewN w k ⟨blk', off' + i * 2, none⟩).trans c21
        have q22 := fun k => (World.cell?_drewN w k ⟨blk', off' + i * 2 + 1, none⟩).trans c22
        clear hc hc' c11 c12 c21 c22
        clear hN hN'
        by_cases he : (x1, x2) = (y1, y2)
        · obtain ⟨rfl, rfl⟩ := Prod.mk.inj he
          have E1 : Aside (d[i]! = d'[i]!) := hx.symm.trans hy
          clear hx hy he
          go_wp2_with fail
          go_quiet (fail)
          go_wp2_with fail
          go_roundg (n - (i + 1))
          case measure => omega
          case rel => exact ⟨i + 1, q + nq, by go_num, by omega, by omega, fun k hk => by rcases Nat.lt_or_ge k i with h | h; exact HE k h; rw [show k = i by omega]; exact E1, rfl⟩
        · have E1 : Aside (d[i]! ≠ d'[i]!) := by show _ ≠ _; rw [← hx, ← hy]; exact he
          by_cases e1 : x1 = y1
          · subst e1
            have e2 : ¬ x2 = y2 := fun e2 => he (by rw [e2])
            clear hx hy he
            go_wp2_with fail
            go_quiet (fail)
            go_wp2_with fail
            (try simp only [Exit.inBlock, Exit.then]); refine bodyPost_ret (results_tmp rfl _ _ _) rfl ?_
            exact ⟨by rw [R.out, same_step (i := i) (by have := N.out; omega) (by have := N.out; have := S'.out; omega) E1]; rfl, q + nq, by simp [World.drewN, Nat.add_assoc]⟩
          · clear hx hy he
            go_wp2_with fail
            go_quiet (fail)
            go_wp2_with fail
            (try simp only [Exit.inBlock, Exit.then]); refine bodyPost_ret (results_tmp rfl _ _ _) rfl ?_
            exact ⟨by rw [R.out, same_step (i := i) (by have := N.out; omega) (by have := N.out; have := S'.out; omega) E1]; rfl, q + nq, by simp [World.drewN, Nat.add_assoc]⟩
      · have hltz : ¬ (i : Int) < (n : Int) := by omega
        go_wp2_with fail
        go_ret
        exact ⟨by rw [R.out, same_all S'.out.symm (fun k hk => HE.out k (by have := N.out; omega))]; rfl, q, rfl⟩
end Go.Proofs.YtglgmkikegbchaaGreat

/- spec.Fits, spec.Is; an order in a box; numbers in a row. -/
namespace Go.Proofs.YtglgmkikegbchaaGreat
open Go.RowKit Go.Sort

/-- A slice of numbers that is read. -/
def RdN (w : World) (a : Option Addr) (d : Array Int) : Prop := 0 < d.size → ∃ blk off, a = some ⟨blk, off, none⟩ ∧ blk < w.heap.size ∧ ∀ i, i < d.size → w.cell? ⟨blk, off + i, none⟩ = some (.int .i64 d[i]!)
theorem RdN.below {B : Nat} {w w' : World} {a : Option Addr} {d : Array Int} (h : RdN w a d) (hb : Below B w w') (hB : w.heap.size ≤ B) : RdN w' a d := fun h0 => by
  obtain ⟨blk, off, e, hl, hc⟩ := h h0
  exact ⟨blk, off, e, Nat.lt_of_lt_of_le hl hb.size, fun i hi => (hb.cell (p := ⟨blk, off + i, none⟩) (Nat.lt_of_lt_of_le hl hB)).trans (hc i hi)⟩
/-- The same numbers wherever only new memory has come. -/
theorem RdN.keep {w w' : World} {a : Option Addr} {d : Array Int} (h : RdN w a d) (hb : Below w.heap.size w w') : RdN w' a d := h.below hb (Nat.le_refl _)
theorem Rd2.keep {w w' : World} {a : Option Addr} {d : Array It} (h : Rd2 w a d) (hb : Below w.heap.size w w') : Rd2 w' a d := h.below hb (Nat.le_refl _)
theorem Below.next {w w1 w2 : World} (h : Below w.heap.size w w1) (h2 : Below w1.heap.size w1 w2) : Below w.heap.size w w2 := h.trans (h2.mono h.size)

/-- An order in a box. -/
def BoxO (w : World) (b : Nat) (o : Ordr) : Prop := b < w.heap.size ∧ w.cell? ⟨b, 0, none⟩ = some (.int .i64 o.kind) ∧ w.cell? ⟨b, 1, none⟩ = some (.int .i64 o.shift) ∧ w.cell? ⟨b, 2, none⟩ = some (.int .u64 o.m0) ∧ w.cell? ⟨b, 3, none⟩ = some (.int .u64 o.m1) ∧ w.cell? ⟨b, 4, none⟩ = some (.int .u64 o.m2)
theorem BoxO.keep {w w' : World} {b : Nat} {o : Ordr} (h : BoxO w b o) (hb : Below w.heap.size w w') : BoxO w' b o := by
  obtain ⟨h0, k0, k1, k2, k3, k4⟩ := h
  exact ⟨Nat.lt_of_lt_of_le h0 hb.size, (hb.cell (by exact h0)).trans k0, (hb.cell (by exact h0)).trans k1, (hb.cell (by exact h0)).trans k2, (hb.cell (by exact h0)).trans k3, (hb.cell (by exact h0)).trans k4⟩
theorem boxO_new (w : World) (o : Ordr) (t : TypeId) : BoxO (w.alloc (.cells #[.int .i64 o.kind, .int .i64 o.shift, .int .u64 o.m0, .int .u64 o.m1, .int .u64 o.m2] t)) w.heap.size o := ⟨by simp, by simp [go_sem], by simp [go_sem], by simp [go_sem], by simp [go_sem], by simp [go_sem]⟩
theorem below_alloc (w : World) (x : Obj) : Below w.heap.size w (w.alloc x) := (Below.refl _ w).alloc (Nat.le_refl _) _
theorem below_drewN' {w w' : World} (h : Below w.heap.size w w') (n : Nat) : Below w.heap.size w (w'.drewN n) := below_drewN h n

def fitsB (n : Nat) (o : Ordr) : Bool := decide (n ≤ 2000) && decide (0 ≤ o.kind) && decide (o.kind ≤ 3) && decide (0 ≤ o.shift) && decide (o.shift < 64)

set_option maxHeartbeats 2000000 in
set_option maxRecDepth 1000000 in
theorem fits_calls (a : Option Addr) (cap n : Nat) (o : Ordr) (w : World) : Calls Tryz.prog 23 #[.slice a n cap, vOrd o] w fun e w' => e = .returned (.bool (fitsB n o)) ∧ Below w.heap.size w w' := by
  obtain ⟨k, s, m0, m1, m2⟩ := o
  show Calls _ _ _ _ fun e w' => e = .returned (.bool (decide (n ≤ 2000) && decide (0 ≤ k) && decide (k ≤ 3) && decide (0 ≤ s) && decide (s < 64))) ∧ Below w.heap.size w w'
  have hz : decide (n ≤ 2000) = decide ((n : Int) ≤ 2000) := decide_eq_decide.2 (by omega)
  rw [hz]
  clear hz
  have B := below_alloc w (.cells #[.int .i64 k, .int .i64 s, .int .u64 m0, .int .u64 m1, .int .u64 m2] 26)
  have B' : Aside (Below w.heap.size w (w.alloc (.cells #[.int .i64 k, .int .i64 s, .int .u64 m0, .int .u64 m1, .int .u64 m2] 26))) := B
  clear B
  by_cases h1 : (n : Int) ≤ 2000
  · by_cases h2 : 0 ≤ k
    · by_cases h3 : k ≤ 3
      · by_cases h4 : 0 ≤ s
        · have e1 : decide ((n : Int) ≤ 2000) = true := decide_eq_true h1
          have e2 : decide (0 ≤ k) = true := decide_eq_true h2
          have e3 : decide (k ≤ 3) = true := decide_eq_true h3
          have e4 : decide (0 ≤ s) = true := decide_eq_true h4
          rw [e1, e2, e3, e4]
          go_enter Tryz.func23, Tryz.ntmps23
          go_wp2
          go_ret
          exact ⟨rfl, B'.out⟩
        · have e1 : decide ((n : Int) ≤ 2000) = true := decide_eq_true h1
          have e2 : decide (0 ≤ k) = true := decide_eq_true h2
          have e3 : decide (k ≤ 3) = true := decide_eq_true h3
          have e4 : decide (0 ≤ s) = false := decide_eq_false h4
          rw [e1, e2, e3, e4]
          go_enter Tryz.func23, Tryz.ntmps23
          go_wp2
          go_ret
          exact ⟨rfl, B'.out⟩
      · have e1 : decide ((n : Int) ≤ 2000) = true := decide_eq_true h1
        have e2 : decide (0 ≤ k) = true := decide_eq_true h2
        have e3 : decide (k ≤ 3) = false := decide_eq_false h3
        rw [e1, e2, e3]
        go_enter Tryz.func23, Tryz.ntmps23
        go_wp2
        go_ret
        exact ⟨rfl, B'.out⟩
    · have e1 : decide ((n : Int) ≤ 2000) = true := decide_eq_true h1
      have e2 : decide (0 ≤ k) = false := decide_eq_false h2
      rw [e1, e2]
      go_enter Tryz.func23, Tryz.ntmps23
      go_wp2
      go_ret
      exact ⟨rfl, B'.out⟩
  · have e1 : decide ((n : Int) ≤ 2000) = false := decide_eq_false h1
    rw [e1]
    go_enter Tryz.func23, Tryz.ntmps23
    go_wp2
    go_ret
    exact ⟨rfl, B'.out⟩

theorem is_calls (o : Ordr) (w : World) : Calls Tryz.prog 33 #[vOrd o] w fun e w' => e = .returned (.bool (o.kind != 3)) ∧ Below w.heap.size w w' := by
  obtain ⟨k, s, m0, m1, m2⟩ := o
  have B' : Aside (Below w.heap.size w (w.alloc (.cells #[.int .i64 k, .int .i64 s, .int .u64 m0, .int .u64 m1, .int .u64 m2] 26))) := below_alloc w _
  go_enter Tryz.func33, Tryz.ntmps33
  go_wp2
  go_ret
  exact ⟨rfl, B'.out⟩
end Go.Proofs.YtglgmkikegbchaaGreat

/- A map that counts: 'many[x]++', 'many[x]--', and a range over it. -/
namespace Go.Proofs.YtglgmkikegbchaaGreat
open Go.RowKit Go.Maps Go.ChangeMaps
open Go.WideMaps (KeyLaw)

section
variable {κ : Type} {P : Program} {t k e : TypeId}

/-- Block b is a map that tells of each key how many. -/
def CM (mk : κ → Value) (ok : κ → Prop) (w : World) (b : Nat) (c : κ → Int) : Prop :=
  ∃ es clock, w.heap[b]? = some (.map es clock) ∧ MapKept.Stamped es clock ∧ (∀ x ∈ es.toList, ∃ y, ok y ∧ x.key = mk y ∧ x.val = .int .i64 (c y)) ∧ (∀ y, ok y → (∀ x ∈ es.toList, x.key ≠ mk y) → c y = 0)

variable {mk : κ → Value} {ok : κ → Prop} {w : World} {b : Nat} {c : κ → Int}

theorem CM.lt (h : CM mk ok w b c) : b < w.heap.size := by
  obtain ⟨es, clock, hb, _⟩ := h
  rcases Nat.lt_or_ge b w.heap.size with h | h
  · exact h
  · rw [Array.getElem?_eq_none h] at hb; cases hb
theorem CM.of_block {w' : World} (h : CM mk ok w b c) (hb : w'.heap[b]? = w.heap[b]?) : CM mk ok w' b c := by
  obtain ⟨es, clock, h1, r⟩ := h
  exact ⟨es, clock, hb.trans h1, r⟩
theorem cm_made (w : World) : CM mk ok (w.alloc (.map #[] 0)) w.heap.size (fun _ => 0) :=
  ⟨#[], 0, by have := heap_alloc_new w (.map #[] 0); exact this, MapKept.stamped_empty _, fun x h => by simp at h, fun _ _ _ => rfl⟩

theorem heap_setBlock {w : World} {b : Nat} {es es' : Array MapEntry} {c c' : Nat} (h : w.heap[b]? = some (.map es c)) : (setBlock w b (.map es' c')).heap[b]? = some (.map es' c') := heap_setBlock_same h _

/-- What one round of counting does: the look-up, the entry's place, the store, in whatever order the first two come. -/
theorem cm_step [DecidableEq κ] (K : Keyed P k) (ht : P.underlying t = some (.map k e)) (hz : ∀ u : World, (zeroValue e).run P u = .ok (.int .i64 0) u) (inj : ∀ x y, mk x = mk y → x = y) (hok : ∀ x, ok x → ∃ l, keyOf P k (mk x) = some l)
    (h : CM mk ok w b c) (x : κ) (hx : ok x) :
    ∃ (st : Nat) (w1 : World), (Instr.lookup t (.map (some b)) (mk x) false).run P w = .ok (.int .i64 (c x)) w ∧ (Instr.mapEntry t (.map (some b)) (mk x)).run P w = .ok (.tuple #[.int .i64 (c x), .int .i64 st]) w1 ∧
      (Instr.lookup t (.map (some b)) (mk x) false).run P w1 = .ok (.int .i64 (c x)) w1 ∧ w.grownBy w1 (some b) ∧ w1.heap.size = w.heap.size ∧
      ∀ n : Int, ∃ w2, (Instr.entryStore t (.map (some b)) (.int .i64 st) (.int .i64 n)).run P w1 = .ok () w2 ∧ CM mk ok w2 b (fun y => if y = x then n else c y) ∧ w.grownBy w2 (some b) ∧ w2.heap.size = w.heap.size := by
  obtain ⟨es, clock, hb, hS, hv, h0⟩ := h
  obtain ⟨s1, s2, s3⟩ := hS
  obtain ⟨kl, hkey⟩ := hok x hx
  have hkeys : ∀ y ∈ es.toList, ∃ l, keyOf P k y.key = some l := fun y hy => by
    obtain ⟨z, hz, e, _⟩ := hv y hy
    rw [e]
    exact hok z hz
  have gb : ∀ (es' : Array MapEntry) (c' : Nat), w.grownBy (setBlock w b (.map es' c')) (some b) := fun es' c' => ⟨rfl, rfl, rfl, by simp [setBlock], fun i _ hi => heap_setBlock_other hb _ (fun e => hi (by rw [e]))⟩
  rcases K.find w hkey es.toList hkeys with ⟨h1, h2⟩ | ⟨j, e0, h1, h2, h3⟩
  · have hcx : c x = 0 := h0 x hx h2
    obtain ⟨W1, hW1⟩ : ∃ W1, W1 = setBlock w b (.map (es.push ⟨mk x, .int .i64 0, clock⟩) (clock + 1)) := ⟨_, rfl⟩
    have hb1 : W1.heap[b]? = some (.map (es.push ⟨mk x, .int .i64 0, clock⟩) (clock + 1)) := by rw [hW1]; exact heap_setBlock hb
    have g1 : w.grownBy W1 (some b) := by rw [hW1]; exact gb _ _
    have z1 : W1.heap.size = w.heap.size := by rw [hW1]; simp [setBlock]
    have gc : ∀ (es' : Array MapEntry) (c' : Nat), w.grownBy (setBlock W1 b (.map es' c')) (some b) := fun es' c' => g1.trans ⟨rfl, rfl, rfl, by simp [setBlock], fun i _ hi => heap_setBlock_other hb1 _ (fun e => hi (by rw [e]))⟩
    refine ⟨clock, W1, ?_, ?_, ?_, g1, z1, fun n => ⟨setBlock W1 b (.map (es.push ⟨mk x, .int .i64 n, clock⟩) (clock + 1)), ?_, ?_, gc _ _, by rw [← z1]; simp [setBlock]⟩⟩
    · rw [hcx]
      simp [Instr.lookup, run_underlying ht, MapKept.run_getObj_map hb, K.check w _ hkey, h1, hz, Result.andThen]
    · rw [hcx]
      simp [Instr.mapEntry, run_underlying ht, MapKept.run_getObj_map hb, K.check w false hkey, h1, hz, MapKept.run_setObj_map _ hb, Result.andThen, goInt, hW1, setBlock]
    · rw [hcx]
      rcases K.find W1 hkey (es.push ⟨mk x, .int .i64 0, clock⟩).toList (fun y hy => by
          simp only [Array.toList_push, List.mem_append, List.mem_singleton] at hy
          rcases hy with hy | rfl
          · exact hkeys y hy
          · exact ⟨kl, hkey⟩) with ⟨_, g2⟩ | ⟨j, e0, g1, g2, g3⟩
      · exact absurd rfl (g2 ⟨mk x, .int .i64 0, clock⟩ (by simp))
      · have hm := List.mem_of_getElem? g2
        simp only [Array.toList_push, List.mem_append, List.mem_singleton] at hm
        rcases hm with hm | rfl
        · exact absurd g3 (h2 e0 hm)
        · simp only [Array.toList_push] at g1
          simp [Instr.lookup, run_underlying ht, MapKept.run_getObj_map hb1, K.check _ _ hkey, g1, Result.andThen]
    · have hidx : (es.push ⟨mk x, .int .i64 0, clock⟩).findIdx? (fun e => ((e.born : Nat) : Int) == ((clock : Nat) : Int)) = some es.size := by
        rw [WideElems.findIdx_arr]
        have := WideElems.findIdx_born (l := (es.push ⟨mk x, .int .i64 0, clock⟩).toList) (j := es.size) (e0 := ⟨mk x, .int .i64 0, clock⟩) (by
          simp only [Array.toList_push, List.map_append, List.map_cons, List.map_nil]
          refine List.nodup_append.2 ⟨s2, by simp, fun a ha c hc e1 => ?_⟩
          simp only [List.mem_singleton] at hc
          obtain ⟨x, hx, rfl⟩ := List.mem_map.1 ha
          have := s1 x hx
          omega) (by simp)
        exact this
      have hmod : (es.push ⟨mk x, .int .i64 0, clock⟩).modify es.size (fun e => { e with val := .int .i64 n }) = es.push ⟨mk x, .int .i64 n, clock⟩ := by
        apply Array.ext'
        rw [Array.toList_modify, Array.toList_push, Array.toList_push, ← Array.length_toList, WideElems.modify_last]
      simp [Instr.entryStore, MapKept.run_getObj_map hb1, asInt, asIntOf, hidx, hmod, MapKept.run_setObj_map _ hb1, Result.andThen, setBlock]
    · refine ⟨_, _, heap_setBlock hb1, ?_, fun y hy => ?_, fun y hy hn => ?_⟩
      · refine ⟨fun y hy => ?_, ?_, ?_⟩
        · simp only [Array.toList_push, List.mem_append, List.mem_singleton] at hy
          rcases hy with hy | rfl
          · have := s1 y hy; omega
          · show clock < clock + 1; omega
        · simp only [Array.toList_push, List.map_append, List.map_cons, List.map_nil]
          refine List.nodup_append.2 ⟨s2, by simp, fun a ha c hc e1 => ?_⟩
          simp only [List.mem_singleton] at hc
          obtain ⟨x, hx, rfl⟩ := List.mem_map.1 ha
          have := s1 x hx
          omega
        · simp only [Array.toList_push, List.map_append, List.map_cons, List.map_nil]
          refine List.nodup_append.2 ⟨s3, by simp, fun a ha c hc e1 => ?_⟩
          simp only [List.mem_singleton] at hc
          obtain ⟨y, hy, rfl⟩ := List.mem_map.1 ha
          exact h2 y hy (e1.trans hc)
      · simp only [Array.toList_push, List.mem_append, List.mem_singleton] at hy
        rcases hy with hy | rfl
        · obtain ⟨z, hz, e1, e2⟩ := hv y hy
          have hne : z ≠ x := fun e3 => h2 y hy (by rw [e1, e3])
          exact ⟨z, hz, e1, by rw [e2]; simp [hne]⟩
        · exact ⟨x, hx, rfl, by simp⟩
      · by_cases e1 : y = x
        · subst e1
          exact absurd rfl (hn ⟨mk y, .int .i64 n, clock⟩ (by simp))
        · simp only [e1, if_false]
          exact h0 y hy (fun z hz => hn z (by simp [hz]))
  · have hm0 : e0 ∈ es.toList := List.mem_of_getElem? h2
    obtain ⟨z, hzz, e1, e2⟩ := hv e0 hm0
    have hzx : z = x := inj _ _ (e1.symm.trans h3)
    subst hzx
    have hj : es[j]? = some e0 := by simpa using h2
    have hsame : es.modify j (fun e => { e with key := mk z }) = es := by
      apply Array.ext'
      rw [Array.toList_modify, modify_eq_set _ _ _ _ h2]
      have : ({ e0 with key := mk z } : MapEntry) = e0 := by rw [← h3]
      rw [this]
      exact WideElems.set_self _ _ _ h2
    obtain ⟨W1, hW1⟩ : ∃ W1, W1 = setBlock w b (.map es clock) := ⟨_, rfl⟩
    have hb1 : W1.heap[b]? = some (.map es clock) := by rw [hW1]; exact heap_setBlock hb
    have g1 : w.grownBy W1 (some b) := by rw [hW1]; exact gb _ _
    have z1 : W1.heap.size = w.heap.size := by rw [hW1]; simp [setBlock]
    have gc : ∀ (es' : Array MapEntry) (c' : Nat), w.grownBy (setBlock W1 b (.map es' c')) (some b) := fun es' c' => g1.trans ⟨rfl, rfl, rfl, by simp [setBlock], fun i _ hi => heap_setBlock_other hb1 _ (fun e => hi (by rw [e]))⟩
    refine ⟨e0.born, W1, ?_, ?_, ?_, g1, z1, fun n => ⟨setBlock W1 b (.map (es.modify j fun e' => { e' with val := .int .i64 n }) clock), ?_, ?_, gc _ _, by rw [← z1]; simp [setBlock]⟩⟩
    · simp [Instr.lookup, run_underlying ht, MapKept.run_getObj_map hb, K.check w _ hkey, h1, e2, Result.andThen]
    · simp [Instr.mapEntry, run_underlying ht, MapKept.run_getObj_map hb, K.check w false hkey, h1, hj, h3, K.stays w hkey, hsame, MapKept.run_setObj_map _ hb, Result.andThen, goInt, e2, hW1, setBlock]
    · rcases K.find W1 hkey es.toList hkeys with ⟨_, g2⟩ | ⟨j', e', g1, g2, g3⟩
      · exact absurd h3 (g2 e0 hm0)
      · obtain ⟨z', hz', f1, f2⟩ := hv e' (List.mem_of_getElem? g2)
        have : z' = z := inj _ _ (f1.symm.trans g3)
        subst this
        simp [Instr.lookup, run_underlying ht, MapKept.run_getObj_map hb1, K.check _ _ hkey, g1, f2, Result.andThen]
    · have hidx : es.findIdx? (fun e => ((e.born : Nat) : Int) == ((e0.born : Nat) : Int)) = some j := by
        rw [WideElems.findIdx_arr]
        exact WideElems.findIdx_born s2 h2
      simp [Instr.entryStore, MapKept.run_getObj_map hb1, asInt, asIntOf, hidx, MapKept.run_setObj_map _ hb1, Result.andThen, setBlock]
    · have hset : (es.modify j fun e' => { e' with val := .int .i64 n }).toList = es.toList.set j { e0 with val := .int .i64 n } := by
        rw [Array.toList_modify, modify_eq_set _ _ _ _ h2]
      have hmem : ∀ y ∈ es.toList.set j { e0 with val := Value.int .i64 n }, y = { e0 with val := .int .i64 n } ∨ (y ∈ es.toList ∧ y.key ≠ e0.key) := fun y hy => by
        obtain ⟨i, hi, hyi⟩ := List.getElem_of_mem hy
        rw [List.getElem_set] at hyi
        by_cases e : j = i
        · rw [if_pos e] at hyi; exact Or.inl hyi.symm
        · rw [if_neg e] at hyi
          refine Or.inr ⟨by rw [← hyi]; exact List.getElem_mem _, fun ek => e ?_⟩
          have hi' : i < es.toList.length := by simpa using hi
          obtain ⟨hjl, hje⟩ := List.getElem?_eq_some_iff.1 h2
          have a1 : (es.toList.map (·.key))[j]? = (es.toList.map (·.key))[i]? := by
            rw [List.getElem?_map, List.getElem?_map, h2, List.getElem?_eq_getElem hi', hyi]
            simp [ek]
          have nd : ∀ (i j : Nat), i < j → j < (es.toList.map (·.key)).length → (es.toList.map (·.key))[i]? ≠ (es.toList.map (·.key))[j]? := fun i j hij hj he => by
            have := List.pairwise_iff_getElem.1 s3 i j (by omega) hj hij
            rw [List.getElem?_eq_getElem (by omega), List.getElem?_eq_getElem hj] at he
            exact this (Option.some.inj he)
          rcases Nat.lt_trichotomy j i with h | h | h
          · exact absurd a1 (nd j i h (by simpa using hi'))
          · exact h
          · exact absurd a1.symm (nd i j h (by simpa using hjl))
      have hk : ∀ f : MapEntry → Value, (∀ v, f { e0 with val := v } = f e0) → (es.toList.set j { e0 with val := Value.int .i64 n }).map f = es.toList.map f := fun f hf => by
        rw [List.map_set, hf]
        exact WideElems.set_self _ _ _ (by rw [List.getElem?_map, h2]; rfl)
      refine ⟨_, _, heap_setBlock hb1, ?_, fun y hy => ?_, fun y hy hn => ?_⟩
      · unfold MapKept.Stamped
        rw [hset]
        refine ⟨fun y hy => ?_, ?_, ?_⟩
        · rcases hmem y hy with rfl | ⟨h, _⟩
          · exact s1 e0 hm0
          · exact s1 y h
        · rw [List.map_set]
          rw [WideElems.set_self _ _ _ (by rw [List.getElem?_map, h2]; rfl)]
          exact s2
        · rw [hk (·.key) (fun _ => rfl)]; exact s3
      · rw [hset] at hy
        rcases hmem y hy with rfl | ⟨h, hne⟩
        · exact ⟨z, hzz, h3, by simp⟩
        · obtain ⟨z', hz', f1, f2⟩ := hv y h
          have : z' ≠ z := fun e => hne (by rw [f1, e, ← h3])
          exact ⟨z', hz', f1, by rw [f2]; simp [this]⟩
      · rw [hset] at hn
        by_cases e3 : y = z
        · subst e3
          refine absurd h3 (hn { e0 with val := .int .i64 n } ?_)
          obtain ⟨hjl, _⟩ := List.getElem?_eq_some_iff.1 h2
          exact List.mem_iff_getElem.2 ⟨j, by simpa using hjl, by simp⟩
        · simp only [e3, if_false]
          refine h0 y hy (fun x' hx' ex => ?_)
          obtain ⟨i, hi, hxi⟩ := List.getElem_of_mem hx'
          by_cases e : j = i
          · subst e
            obtain ⟨hjl, hje⟩ := List.getElem?_eq_some_iff.1 h2
            rw [hje] at hxi
            rw [← hxi, h3] at ex
            exact e3 (inj _ _ ex).symm
          · exact hn x' (List.mem_iff_getElem.2 ⟨i, by simpa using hi, by rw [List.getElem_set, if_neg e]; exact hxi⟩) ex

/-- A range over a map of which every count is 0 is under way: how many entries are left. -/
def RZ (mk : κ → Value) (w : World) (b r g : Nat) : Prop :=
  ∃ es clock since seen c0, w.heap[b]? = some (.map es clock) ∧ (es.toList.map (·.born)).Nodup ∧ (∀ x ∈ es.toList, ∃ y, x.key = mk y ∧ x.val = .int .i64 0) ∧
    w.heap[r]? = some (.mapIter (some b) since seen c0) ∧ (∀ x ∈ es.toList, x.born < since) ∧ since ≤ c0 ∧ since ≤ clock ∧ (leftOf es seen).size = g

theorem rz_range (ht : P.underlying t = some (.map k e)) (h : CM mk ok w b c) (h0 : ∀ y, c y = 0) :
    ∃ w' g, (Instr.range t (.map (some b))).run P w = .ok (.pointer (some ⟨w.heap.size, 0, none⟩)) w' ∧ RZ mk w' b w.heap.size g ∧ Below w.heap.size w w' := by
  have hlt := h.lt
  obtain ⟨es, clock, hb, ⟨s1, s2, _⟩, hv, _⟩ := h
  refine ⟨_, _, run_range_map w t k e b es clock ht hb, ⟨es, clock, clock, #[], clock, ((MapKept.heap_alloc w _).2 b hlt).trans hb, s2, fun x hx => ?_, (MapKept.heap_alloc w _).1, s1, Nat.le_refl _, Nat.le_refl _, rfl⟩, below_alloc _ _⟩
  obtain ⟨y, _, e1, e2⟩ := hv x hx
  exact ⟨y, e1, by rw [e2, h0]⟩

theorem rz_next {r g : Nat} (h : RZ mk w b r g) (ty : TypeId) :
    (g = 0 ∧ (Instr.next (.pointer (some ⟨r, 0, none⟩)) false ty).run P w = .ok (.tuple #[.bool false]) w) ∨
    ∃ g' y w', g' < g ∧ (Instr.next (.pointer (some ⟨r, 0, none⟩)) false ty).run P w = .ok (.tuple #[.bool true, mk y, .int .i64 0]) w' ∧ RZ mk w' b r g' ∧
      (Instr.entry (.pointer (some ⟨r, 0, none⟩))).run P w' = .ok (.tuple #[mk y, .int .i64 0]) w' ∧ w.grownBy w' (some r) ∧ w'.heap.size = w.heap.size := by
  obtain ⟨es, clock, since, seen, c0, hb, hn, hv, hr, hold, hsc, hsk, hg⟩ := h
  have hne : r ≠ b := fun e => by rw [e, hb] at hr; cases hr
  rcases run_next_at (P := P) w ty r b since c0 seen es clock hr hb hold hsc with ⟨h0, hrun⟩ | ⟨x, hx, w1, hal, hrun⟩
  · exact Or.inl ⟨by omega, hrun⟩
  · obtain ⟨hem, _⟩ := mem_left hx
    obtain ⟨y, e1, e2⟩ := hv x hem
    have hr1 : w1.heap[r]? = some (.mapIter (some b) since seen c0) := by rcases hal with rfl | rfl <;> exact hr
    have hb1 : w1.heap[b]? = some (.map es clock) := by rcases hal with rfl | rfl <;> exact hb
    have hset := MapKept.heap_set (o' := .mapIter (some b) since (seen.push x.born) clock) hr1
    have hb' : (setBlock w1 r (.mapIter (some b) since (seen.push x.born) clock)).heap[b]? = some (.map es clock) := (hset.2 b (fun e1 => hne e1.symm)).trans hb1
    have hen := run_entry_at (P := P) _ r b since seen es clock x hset.1 hb' hem hn
    rw [e1, e2] at hrun hen
    refine Or.inr ⟨_, y, _, ?_, hrun, ⟨es, clock, since, seen.push x.born, clock, hb', hn, hv, hset.1, hold, hsk, hsk, rfl⟩, hen, ?_, ?_⟩
    · rw [← hg]; exact left_shrinks es seen x hx
    · rcases hal with rfl | rfl <;> exact ⟨rfl, rfl, rfl, by simp [setBlock], fun i _ hi => hset.2 i (fun e1 => hi (by rw [e1]))⟩
    · rcases hal with rfl | rfl <;> simp [setBlock]

theorem wpList_next_rz {ops : Array Oper} {rest : List Oper} {o : Oper} {a : Act} {Q : Exit → Act → World → Prop} {r g : Nat} (h : Aside (RZ mk w b r g)) (hg : o.guard = none) (it : Operand) (hop : o.op = Op.next it false) (hit : a.eval it = .pointer (some ⟨r, 0, none⟩))
    (hDone : wpList P ops Q rest (a.put o.dst (.tuple #[.bool false])) w)
    (hMore : ∀ (y : κ) (w' : World) (g' : Nat), g' < g → Aside (RZ mk w' b r g') → (Instr.entry (.pointer (some ⟨r, 0, none⟩))).run P w' = .ok (.tuple #[mk y, .int .i64 0]) w' → Aside (w.grownBy w' (some r)) → wpList P ops Q rest (a.put o.dst (.tuple #[.bool true, mk y, .int .i64 0])) w') :
    wpList P ops Q (o :: rest) a w := by
  refine wpList_plain hg fun K' hK' => ?_
  unfold Oper.wp
  rcases rz_next (P := P) h.out o.type with ⟨_, hrun⟩ | ⟨g', y, w', hlt, hrun, hrz, hen, hgr, _⟩
  · simp [execOp, hop, hit, hrun, Result.andThen]
    exact hK' _ _ hDone
  · simp [execOp, hop, hit, hrun, Result.andThen]
    exact hK' _ _ (hMore y w' g' hlt hrz hen hgr)

theorem wpList_range_cm {ops : Array Oper} {rest : List Oper} {o : Oper} {a : Act} {Q : Exit → Act → World → Prop} (ht : P.underlying t = some (.map k e)) (h : Aside (CM mk ok w b c)) (h0 : ∀ y, c y = 0) (hg : o.guard = none) (m : Operand) (hop : o.op = Op.range t m) (hm : a.eval m = .map (some b))
    (hK : ∀ (w' : World) (g : Nat), Aside (RZ mk w' b w.heap.size g) → Aside (Below w.heap.size w w') → wpList P ops Q rest (a.put o.dst (.pointer (some ⟨w.heap.size, 0, none⟩))) w') :
    wpList P ops Q (o :: rest) a w := by
  refine wpList_plain hg fun K' hK' => ?_
  obtain ⟨w', g, hrun, hrz, hb⟩ := rz_range (P := P) ht h.out h0
  unfold Oper.wp
  simp [execOp, hop, hm, hrun, Result.andThen]
  exact hK' _ _ (hK w' g hrz hb)
end
end Go.Proofs.YtglgmkikegbchaaGreat

/- bits.Len, out of the library's contracts, laid over this program. -/
namespace Go.Proofs.YtglgmkikegbchaaGreat
open Go.Shelf Go.Proofs
def lays125_ren : Go.Shelf.Ren := ⟨fun | 125 => 120 | 128 => 172 | 129 => 173 | n => n, fun | 46 => 92 | 3 => 3 | 51 => 130 | 53 => 23 | 4 => 4 | 5 => 5 | 9 => 9 | n => n, fun | n => n⟩
theorem lays125 : Go.Proofs.Lays.n125 Tryz.prog lays125_ren := {
  mixed := by kernel_rfl
  f125 := Tryz.func120.trans (congrArg some (by kernel_rfl))
  f128 := Tryz.func172.trans (congrArg some (by kernel_rfl))
  f129 := Tryz.func173.trans (congrArg some (by kernel_rfl))
  t3 := Tryz.underlying3
  a3 := Tryz.isAgg3
  z3 := Tryz.sizeOf3
  v3 := Tryz.zeroValue3
  t4 := Tryz.underlying4
  a4 := Tryz.isAgg4
  z4 := Tryz.sizeOf4
  v4 := Tryz.zeroValue4
  t5 := Tryz.underlying5
  a5 := Tryz.isAgg5
  z5 := Tryz.sizeOf5
  v5 := Tryz.zeroValue5
  t9 := Tryz.underlying9
  a9 := Tryz.isAgg9
  z9 := Tryz.sizeOf9
  v9 := Tryz.zeroValue9
  t46 := Tryz.underlying92
  a46 := Tryz.isAgg92
  z46 := Tryz.sizeOf92
  v46 := Tryz.zeroValue92
  t51 := Tryz.underlying130
  a51 := Tryz.isAgg130
  z51 := Tryz.sizeOf130
  v51 := Tryz.zeroValue130
  t53 := Tryz.underlying23
  a53 := Tryz.isAgg23
  z53 := Tryz.sizeOf23
  v53 := Tryz.zeroValue23 }
/-- bits.Len gives the number of bits. -/
theorem bits_Len (x : Int) (w : World) (h0 : 0 ≤ x) (h1 : x ≤ 18446744073709551615) :
    Calls Tryz.prog 120 #[.int .u64 x] w fun e w' => e = .returned (.int .i64 (Lib.bitLen x.toNat)) ∧ w' = w := Any.bits_Len lays125 x w h0 h1

end Go.Proofs.YtglgmkikegbchaaGreat

/- SortFunc of twelve elements or fewer. -/
namespace Go.Proofs.YtglgmkikegbchaaGreat
open Go.RowKit Go.Sort

set_option maxHeartbeats 2000000 in
set_option maxRecDepth 1000000 in
theorem pdqSmall_c (O : Value) (cf : It → It → Int) (hC : CmpC O cf) (w0 : World) (blk off cap n : Nat) (d : Array It) (w : World) (S : St2 w0 blk off d w) (hn : d.size = n) (hsz : n < 4611686018427387904) (a b : Nat) (limit : Int) (hab : a ≤ b) (hb : b ≤ n) (h12 : b - a ≤ 12) :
    Calls Tryz.prog 119 #[.slice (some ⟨blk, off, none⟩) n cap, .int .i64 a, .int .i64 b, .int .i64 limit, .func (.func 43) #[O] #[]] w fun e w' =>
      e = .returned (.tuple #[]) ∧ St2 w0 blk off (insertionSort (ltC cf) d a b) w' := by
  have hc := insertionSort_c O cf hC w0 blk off cap n d w S hn hsz a b hab hb
  have h12z : (b : Int) - (a : Int) ≤ 12 := by omega
  clear S hC
  go_enter Tryz.func119, Tryz.ntmps119
  go_wp2
  refine wp_loop_rounds 1 ?_
  rw [rounds_succ]
  go_wp2_with fail
  refine hc.mono ?_
  rintro e w' ⟨rfl, h⟩
  go_wp2_with fail
  (try simp only [Exit.inBlock, Exit.then]); refine bodyPost_ret (results_none rfl _ _ _) rfl ?_
  exact ⟨rfl, h⟩

set_option maxHeartbeats 2000000 in
set_option maxRecDepth 1000000 in
theorem sortFuncSmall_c (O : Value) (cf : It → It → Int) (hC : CmpC O cf) (w0 : World) (blk off cap n : Nat) (d : Array It) (w : World) (S : St2 w0 blk off d w) (hn : d.size = n) (h12 : n ≤ 12) :
    Calls Tryz.prog 56 #[.slice (some ⟨blk, off, none⟩) n cap, .func (.func 43) #[O] #[]] w fun e w' =>
      e = .returned (.tuple #[]) ∧ St2 w0 blk off (insertionSort (ltC cf) d 0 n) w' := by
  have hc := fun lim => pdqSmall_c O cf hC w0 blk off cap n d w S hn (by omega) 0 n lim (Nat.zero_le _) (Nat.le_refl _) (by omega)
  have hl := bits_Len (n : Int) w (by omega) (by omega)
  have hw : IntKind.u64.wrap (n : Int) = (n : Int) := by rw [IntKind.wrap_u64]; omega
  clear S hC
  go_enter Tryz.func56, Tryz.ntmps56
  go_wp2_with fail
  refine hl.mono ?_
  rintro e w' ⟨rfl, rfl⟩
  go_wp2_with fail
  refine (hc _).mono ?_
  rintro e w' ⟨rfl, h⟩
  go_wp2_with fail
  go_end0
  exact ⟨rfl, h⟩
end Go.Proofs.YtglgmkikegbchaaGreat

/- guarded; Whole by SortFunc, of twelve elements or fewer. -/
namespace Go.Proofs.YtglgmkikegbchaaGreat
open Go.RowKit Go.Sort

/-- guarded, of a function that returns: nothing was to be recovered. -/
theorem guarded_idle (p : Addr) (w : World) :
    CallsD Tryz.prog 39 #[.pointer (some p)] .returning w fun e u' w' => e = .returned (.tuple #[]) ∧ u' = .returning ∧ w' = w := by
  refine callsD_of_wpS Tryz.func39 rfl fun c₀ cs hu => ?_
  apply wpS_seq
  apply wpS_region
  simp [wpOpsS, go_sem, recoverD, hu, Tryz.ntmps39, Exit.thenS]
  refine wpS_cond (t := false) (by simp [Act.eval, Array.replicate]) ?_
  simp only [Bool.false_eq_true, if_false]
  refine wpS_of_wp (wp_skip ?_)
  cases c₀
  simp_all [bodyPostS, results, Tryz.results39]

theorem kept_cell {w w' : World} {row : Option Nat} (h : w.grownBy w' row) {p : Addr} (hp : p.block < w.heap.size) (hr : some p.block ≠ row) : w'.cell? p = w.cell? p := World.cell?_of_block (h.block _ hp hr)
theorem kept_frozen {w w' : World} {row : Option Nat} (h : w.grownBy w' row) {p : Addr} (hp : p.block < w.heap.size) (hr : some p.block ≠ row) : w'.frozen? p = w.frozen? p := World.frozen?_of_block (h.block _ hp hr)
theorem Holds2_of_block {w w' : World} {b off : Nat} {d : Array It} (h : w'.heap[b]? = w.heap[b]?) (H : Holds2 w b off d) : Holds2 w' b off d := fun i hi => by
  obtain ⟨a1, a2, a3, a4⟩ := H i hi
  exact ⟨(World.cell?_of_block h).trans a1, (World.cell?_of_block h).trans a2, (World.frozen?_of_block h).trans a3, (World.frozen?_of_block h).trans a4⟩
theorem below_grownBy {B : Nat} {w w1 w' : World} {b : Nat} (h : Below B w w1) (hg : w1.grownBy w' (some b)) (hB : B ≤ w1.heap.size) (hb : B ≤ b) : Below B w w' := h.grown hg hB (fun k e => by cases e; exact hb)

set_option maxHeartbeats 2000000 in
set_option maxRecDepth 1000000 in
theorem whole0_small (a : Option Addr) (cap : Nat) (d : Array It) (o : Ordr) (h0 : 0 ≤ o.shift) (h63 : o.shift < 64) (w : World) (h : Rd2 w a d) (h12 : d.size ≤ 12) :
    Calls Tryz.prog 36 #[.int .i64 0, .slice a d.size cap, vOrd o] w fun e w' => ∃ v, e = .returned (.tuple #[v, .bool true]) ∧ CopiedTo w (insertionSort (ltC (cfO o)) d 0 d.size) v w' := by
  have H : Aside (Rd2 w a d) := h
  clear h
  have HC := cmpC_of o h0 h63
  obtain ⟨k, s, m0, m1, m2⟩ := o
  have hmf : ∀ (fn : Fn) (first cap : Array Value) (w : World), (Instr.makeFunc fn first cap).run Tryz.prog w = .ok (.func fn first cap) w := fun _ _ _ _ => rfl
  go_enter_defers Tryz.func36, Tryz.ntmps36
  go_wp2_with fail
  refine (copied_calls a cap d _ (H.out.below (((Below.refl _ w).alloc (Nat.le_refl _) _).alloc (by simp) _) (Nat.le_refl _)) (by omega)).mono ?_
  rintro e w1 ⟨v, rfl, b, c2, rfl, hb1, hb2, hcap, hH, hbel⟩
  simp only [World.size_alloc] at hb1 hbel
  have B1 : Aside (Below w.heap.size w w1) := (((Below.refl _ w).alloc (Nat.le_refl _) _).alloc (by simp) _).trans (hbel.mono (by omega))
  have hsz1 : w.heap.size + 2 ≤ w1.heap.size := by have := hbel.size; simpa using this
  have k0 := hbel.cell (p := ⟨w.heap.size, 0, none⟩) (by dsimp only; omega)
  have k1 := hbel.cell (p := ⟨w.heap.size, 1, none⟩) (by dsimp only; omega)
  have k2 := hbel.cell (p := ⟨w.heap.size, 2, none⟩) (by dsimp only; omega)
  have k3 := hbel.cell (p := ⟨w.heap.size, 3, none⟩) (by dsimp only; omega)
  have k4 := hbel.cell (p := ⟨w.heap.size, 4, none⟩) (by dsimp only; omega)
  have ok1 := hbel.cell (p := ⟨w.heap.size + 1, 0, none⟩) (by dsimp only; omega)
  have fk1 := hbel.frozen (p := ⟨w.heap.size + 1, 0, none⟩) (by dsimp only; omega)
  simp at k0 k1 k2 k3 k4 ok1 fk1
  have S1 : Aside (St2 w1 b 0 d w1) := ⟨hH, hb2, World.grownBy.refl _ _⟩
  have C1 := fun S => sortFuncSmall_c (vOrd ⟨k, s, m0, m1, m2⟩) _ HC w1 b 0 c2 d.size d w1 S rfl h12
  clear hbel hH
  go_wp2_with fail
  refine (C1 S1.out).mono ?_
  rintro e w2 ⟨rfl, S2⟩
  have g2 := S2.grown
  have ok2 := (kept_cell g2 (p := ⟨w.heap.size + 1, 0, none⟩) (by dsimp only; omega) (by simp; omega)).trans ok1
  have fk2 := (kept_frozen g2 (p := ⟨w.heap.size + 1, 0, none⟩) (by dsimp only; omega) (by simp; omega)).trans fk1
  have B2 : Aside (Below w.heap.size w w2) := below_grownBy B1.out g2 (by omega) (by omega)
  have sz2 : w.heap.size + 2 ≤ w2.heap.size := Nat.le_trans hsz1 g2.size
  have R2 : Aside (St2 w1 b 0 (insertionSort (ltC (cfO ⟨k, s, m0, m1, m2⟩)) d 0 d.size) w2) := S2
  clear S2 g2 ok1 fk1 k0 k1 k2 k3 k4 C1 S1 B1
  go_wp2_with fail
  obtain ⟨W3, e3⟩ : ∃ W, W = w2.setCell ⟨w.heap.size + 1, 0, none⟩ (.bool true) := ⟨_, rfl⟩
  have q3 : W3.cell? ⟨w.heap.size + 1, 0, none⟩ = some (.bool true) := by rw [e3]; exact World.cell?_setCell_same _ _ _ ok2
  have B3 : Aside (Below w.heap.size w W3) := by show Below _ _ _; rw [e3]; exact B2.out.setCell (by simp) _
  have R3 : Aside (Holds2 W3 b 0 (insertionSort (ltC (cfO ⟨k, s, m0, m1, m2⟩)) d 0 d.size) ∧ b < W3.heap.size) := by
    show _ ∧ _
    rw [e3]
    exact ⟨Holds2_of_block (Below.heap_setCell _ _ _ _ (by dsimp only; omega)) R2.out.holds, by simp; exact R2.out.lt⟩
  rw [← e3]
  clear e3 R2 B2 ok2 fk2 sz2
  refine leaves_cons (f := 39) (args := #[.pointer (some ⟨w.heap.size + 1, 0, none⟩)]) (by simp) (by simp [go_sem]) ?_
  refine (guarded_idle _ _).mono ?_
  rintro e u' w'' ⟨rfl, rfl, rfl⟩
  simp [Leaves, settle, results, Tryz.results36, go_sem, q3]
  have hs : (insertionSort (ltC (cfO ⟨k, s, m0, m1, m2⟩)) d 0 d.size).size = d.size := (insertionSort_perm d 0 d.size (Nat.le_refl _)).1
  refine ⟨b, c2, by rw [hs], by omega, R3.out.2, by rw [hs]; exact hcap, R3.out.1, B3.out⟩
end Go.Proofs.YtglgmkikegbchaaGreat

/- spec.Permuted: true of two lists of which one is a permutation of the other. -/
namespace Go.Proofs.YtglgmkikegbchaaGreat
open Go.RowKit Go.Sort Go.Maps

def okIt (x : It) : Prop := (Lit.int .i64 x.1).wf = true ∧ (Lit.int .i64 x.2).wf = true
theorem laidOut : laidOutB Tryz.prog = true := by kernel_rfl
theorem lawIt : Keyed Tryz.prog 49 := Keyed.of_law (deep_law_laid laidOut (m := 2) (by omega) (of_decide_eq_true (by kernel_rfl)) (by kernel_rfl) (by kernel_rfl))
theorem vIt_inj (x y : It) (h : vIt x = vIt y) : x = y := by
  obtain ⟨a, b⟩ := x
  obtain ⟨c, d⟩ := y
  simp [vIt] at h
  exact Prod.ext h.1 h.2
theorem keyOf_it (x : It) (h : okIt x) : ∃ l, keyOf Tryz.prog 49 (vIt x) = some l := by
  obtain ⟨a, b⟩ := x
  obtain ⟨h1, h2⟩ := h
  dsimp only at h1 h2
  unfold keyOf
  simp only [Tryz.underlying49]
  rw [if_pos (by kernel_rfl)]
  obtain ⟨m, hm⟩ : ∃ m, Tryz.prog.types.size = m + 1 := ⟨Tryz.prog.types.size - 1, by kernel_rfl⟩
  rw [hm]
  unfold Program.keyLits
  simp only [Tryz.underlying49, Value.cells]
  rw [if_pos ⟨by kernel_rfl, by kernel_rfl⟩]
  have c1 : Tryz.prog.cellsOf 2 = 1 := by kernel_rfl
  have hne : (Tryz.prog.types.size == 1) = false := by kernel_rfl
  have hm0 : m ≠ 0 := fun h => by rw [hm, h] at hne; exact absurd hne (by decide)
  obtain ⟨n, rfl⟩ : ∃ n, m = n + 1 := ⟨m - 1, by omega⟩
  simp [c1, Program.keyLits, Tryz.underlying2, h1, h2]
theorem zeroInt (u : World) : (zeroValue 3).run Tryz.prog u = .ok (.int .i64 0) u := by kernel_rfl
def inR (d : Array It) : Prop := ∀ i, i < d.size → okIt d[i]!

/-- How often an element stands in a list. -/
def cntI (l : List It) (y : It) : Int := (l.count y : Nat)
theorem cntI_snoc (l : List It) (x y : It) : cntI (l ++ [x]) y = if y = x then cntI l x + 1 else cntI l y := by
  unfold cntI
  rw [List.count_append]
  by_cases e : y = x
  · subst e; simp
  · have e' : ¬ x = y := fun h => e h.symm
    simp [e, e']
theorem cntI_le (l : List It) (y : It) : 0 ≤ cntI l y ∧ cntI l y ≤ l.length := ⟨by unfold cntI; omega, by unfold cntI; have := List.count_le_length (a := y) (l := l); omega⟩
theorem take_snoc {d : Array It} {i : Nat} (hi : i < d.size) : d.toList.take (i + 1) = d.toList.take i ++ [d[i]!] := by
  rw [List.take_succ_eq_append_getElem (by simpa using hi), getElem!_pos d i hi]; rfl

theorem cntI_less (D l : List It) (x y : It) : cntI D y - cntI (l ++ [x]) y = if y = x then cntI D x - cntI l x - 1 else cntI D y - cntI l y := by
  rw [cntI_snoc]
  by_cases e : y = x
  · subst e; simp; omega
  · simp [e]

set_option maxHeartbeats 8000000 in
set_option maxRecDepth 1000000 in
theorem permuted_calls (a a' : Option Addr) (cap cap' n : Nat) (d d' : Array It) (w : World) (h : Rd2 w a d) (h' : Rd2 w a' d') (hn : d.size = n) (hsz : n ≤ 2000) (hr : inR d) (hp : d'.toList.Perm d.toList) :
    Calls Tryz.prog 46 #[.slice a n cap, .slice a' n cap'] w fun e w' => e = .returned (.bool true) ∧ Below w.heap.size w w' := by
  have hn' : d'.size = n := by have := hp.length_eq; simp at this; omega
  have hr' : inR d' := fun i hi => by
    have hm : d'[i]! ∈ d'.toList := by rw [getElem!_pos d' i hi]; simp
    obtain ⟨j, hj, e⟩ := List.mem_iff_getElem.1 (hp.mem_iff.1 hm)
    have hj' : j < d.size := by simpa using hj
    have := hr j hj'
    rw [getElem!_pos d j hj'] at this
    rw [← e]
    simpa using this
  have H : Aside (Rd2 w a d ∧ d.size = n ∧ inR d) := ⟨h, hn, hr⟩
  have H' : Aside (Rd2 w a' d' ∧ d'.size = n ∧ inR d') := ⟨h', hn', hr'⟩
  have HP : Aside (∀ y, cntI d.toList y - cntI d'.toList y = 0) := fun y => by unfold cntI; rw [hp.count_eq]; omega
  have mixed : Tryz.prog.follows .mixedOrders = true := by kernel_rfl
  have hmm := @run_makeMap Tryz.prog
  clear h h' hn hn' hr hr' hp
  go_enter Tryz.func46, Tryz.ntmps46
  have M0 : Aside (CM vIt okIt (w.alloc (.map #[] 0)) w.heap.size (cntI []) ∧ Below w.heap.size w (w.alloc (.map #[] 0))) := ⟨cm_made w, below_alloc _ _⟩
  go_wp2_with fail
  go_loopg [15] n (fun g vi wr => ∃ i : Nat, vi = .int .i64 i ∧ i ≤ n ∧ n - i ≤ g ∧ Aside (CM vIt okIt wr w.heap.size (cntI (d.toList.take i)) ∧ Below w.heap.size w wr))
  case atStart => exact ⟨0, rfl, Nat.zero_le _, by omega, M0⟩
  case round =>
    obtain ⟨i, rfl, hin, hg, HM⟩ := hrel
    by_cases hlt : i < n
    · have hltz : (i : Int) < (n : Int) := by omega
      obtain ⟨blk, off, rfl, hbl, hc⟩ := H.out.1 (by rw [H.out.2.1]; omega)
      obtain ⟨⟨x1, x2⟩, hx⟩ : ∃ x : It, x = d[i]! := ⟨_, rfl⟩
      obtain ⟨c1, c2⟩ := hc i (by rw [H.out.2.1]; omega)
      rw [← hx] at c1 c2
      dsimp only at c1 c2
      have q1 := (HM.out.2.cell (p := ⟨blk, off + i * 2, none⟩) hbl).trans c1
      have q2 := (HM.out.2.cell (p := ⟨blk, off + i * 2 + 1, none⟩) hbl).trans c2
      obtain ⟨V, hV⟩ : ∃ V, V = (wr.alloc (.cells #[.int .i64 x1, .int .i64 x2] 49)).drew := ⟨_, rfl⟩
      have hlt2 := HM.out.1.lt
      have hVb : ∀ j, j < wr.heap.size → V.heap[j]? = wr.heap[j]? := fun j hj => by rw [hV]; exact heap_alloc_old _ _ hj
      have CV : CM vIt okIt V w.heap.size (cntI (d.toList.take i)) := HM.out.1.of_block (hVb _ hlt2)
      have okx : okIt (x1, x2) := by rw [hx]; exact H.out.2.2 i (by rw [H.out.2.1]; omega)
      obtain ⟨st, V1, l1, me, l2, g1, z1, hs⟩ := cm_step lawIt Tryz.underlying113 zeroInt vIt_inj keyOf_it CV (x1, x2) okx
      obtain ⟨V2, es, CV2, g2, z2⟩ := hs (cntI (d.toList.take i) (x1, x2) + 1)
      have hcl := cntI_le (d.toList.take i) (x1, x2)
      have hll : (d.toList.take i).length ≤ 2000 := by rw [List.length_take]; omega
      obtain ⟨C, hC⟩ : ∃ C, C = cntI (d.toList.take i) (x1, x2) := ⟨_, rfl⟩
      rw [← hC] at l1 me l2 es hcl
      have hw1 : IntKind.i64.wrap (C + 1) = C + 1 := by rw [IntKind.wrap_i64]; omega
      have szV : V.heap.size = wr.heap.size + 1 := by rw [hV]; simp
      have t7 : V.cell? ⟨wr.heap.size, 0, none⟩ = some (.int .i64 x1) := by rw [hV]; simp [go_sem]
      have t7' : V.cell? ⟨wr.heap.size, 1, none⟩ = some (.int .i64 x2) := by rw [hV]; simp [go_sem]
      have t8 := (kept_cell g1 (p := ⟨wr.heap.size, 0, none⟩) (by dsimp only; omega) (by simp; omega)).trans t7
      have t8' := (kept_cell g1 (p := ⟨wr.heap.size, 1, none⟩) (by dsimp only; omega) (by simp; omega)).trans t7'
      have HN : Aside (CM vIt okIt V2 w.heap.size (cntI (d.toList.take (i + 1))) ∧ Below w.heap.size w V2) := by
        refine ⟨?_, ?_⟩
        · rw [take_snoc (by rw [H.out.2.1]; omega), ← hx, show cntI (d.toList.take i ++ [(x1, x2)]) = fun y => if y = (x1, x2) then cntI (d.toList.take i) (x1, x2) + 1 else cntI (d.toList.take i) y from funext (fun y => cntI_snoc _ _ _)]
          exact CV2
        · have b1 : Below w.heap.size w V := by rw [hV]; exact (HM.out.2.alloc (by omega) _).drew
          exact b1.grown g2 (by omega) (fun k ek => by cases ek; exact Nat.le_refl _)
      dsimp only [vIt] at l1 me l2
      clear hc c1 c2 hx hbl HM CV okx hs CV2 g1 g2 z1 z2 hcl hll hC hVb hlt2 szV
      rw [hV] at l1 me t7 t7'
      go_wp2_with fail
      go_region
      all_goals
        go_wp2_with fail
        go_roundg (n - (i + 1))
        case measure => omega
        case rel => exact ⟨i + 1, by go_num, by omega, by omega, HN⟩
    · have hltz : ¬ (i : Int) < (n : Int) := by omega
      have e0 : i = n := by omega
      subst e0
      have M1 : Aside (CM vIt okIt wr w.heap.size (fun y => cntI d.toList y - cntI (d'.toList.take 0) y) ∧ Below w.heap.size w wr) := by
        refine ⟨?_, HM.out.2⟩
        have h1 := HM.out.1
        rw [show d.toList.take i = d.toList by rw [← H.out.2.1, ← Array.length_toList, List.take_length]] at h1
        rw [show (fun y => cntI d.toList y - cntI (d'.toList.take 0) y) = cntI d.toList from funext (fun y => by simp [cntI])]
        exact h1
      clear HM
      go_wp2_with fail
      go_loopg [28] i (fun g vi wr => ∃ j : Nat, vi = .int .i64 j ∧ j ≤ i ∧ i - j ≤ g ∧ Aside (CM vIt okIt wr w.heap.size (fun y => cntI d.toList y - cntI (d'.toList.take j) y) ∧ Below w.heap.size w wr))
      case atStart => exact ⟨0, rfl, Nat.zero_le _, by omega, M1⟩
      case round =>
        obtain ⟨n, hnn⟩ : ∃ n, n = i := ⟨_, rfl⟩
        subst hnn
        obtain ⟨i, rfl, hin, hg, HM⟩ := hrel
        by_cases hlt : i < n
        · have hltz : (i : Int) < (n : Int) := by omega
          obtain ⟨blk, off, rfl, hbl, hc⟩ := H'.out.1 (by rw [H'.out.2.1]; omega)
          obtain ⟨⟨x1, x2⟩, hx⟩ : ∃ x : It, x = d'[i]! := ⟨_, rfl⟩
          obtain ⟨c1, c2⟩ := hc i (by rw [H'.out.2.1]; omega)
          rw [← hx] at c1 c2
          dsimp only at c1 c2
          have q1 := (HM.out.2.cell (p := ⟨blk, off + i * 2, none⟩) hbl).trans c1
          have q2 := (HM.out.2.cell (p := ⟨blk, off + i * 2 + 1, none⟩) hbl).trans c2
          obtain ⟨V, hV⟩ : ∃ V, V = (wr.alloc (.cells #[.int .i64 x1, .int .i64 x2] 49)).drew := ⟨_, rfl⟩
          have hlt2 := HM.out.1.lt
          have hVb : ∀ j, j < wr.heap.size → V.heap[j]? = wr.heap[j]? := fun j hj => by rw [hV]; exact heap_alloc_old _ _ hj
          have CV : CM vIt okIt V w.heap.size (fun y => cntI d.toList y - cntI (d'.toList.take i) y) := HM.out.1.of_block (hVb _ hlt2)
          have okx : okIt (x1, x2) := by rw [hx]; exact H'.out.2.2 i (by rw [H'.out.2.1]; omega)
          obtain ⟨st, V1, l1, me, l2, g1, z1, hs⟩ := cm_step lawIt Tryz.underlying113 zeroInt vIt_inj keyOf_it CV (x1, x2) okx
          obtain ⟨V2, es, CV2, g2, z2⟩ := hs (cntI d.toList (x1, x2) - cntI (d'.toList.take i) (x1, x2) - 1)
          have hcl := cntI_le (d'.toList.take i) (x1, x2)
          have hcm := cntI_le d.toList (x1, x2)
          have hld : d.toList.length ≤ 2000 := by rw [Array.length_toList, H.out.2.1]; omega
          have hll : (d'.toList.take i).length ≤ 2000 := by rw [List.length_take]; omega
          obtain ⟨C, hC⟩ : ∃ C, C = cntI d.toList (x1, x2) - cntI (d'.toList.take i) (x1, x2) := ⟨_, rfl⟩
          have hcn : -2000 ≤ C ∧ C ≤ 2000 := by omega
          try dsimp only at l1 me l2 es
          rw [← hC] at l1 me l2 es
          have hw1 : IntKind.i64.wrap (C - 1) = C - 1 := by rw [IntKind.wrap_i64]; omega
          have szV : V.heap.size = wr.heap.size + 1 := by rw [hV]; simp
          have t7 : V.cell? ⟨wr.heap.size, 0, none⟩ = some (.int .i64 x1) := by rw [hV]; simp [go_sem]
          have t7' : V.cell? ⟨wr.heap.size, 1, none⟩ = some (.int .i64 x2) := by rw [hV]; simp [go_sem]
          have t8 := (kept_cell g1 (p := ⟨wr.heap.size, 0, none⟩) (by dsimp only; omega) (by simp; omega)).trans t7
          have t8' := (kept_cell g1 (p := ⟨wr.heap.size, 1, none⟩) (by dsimp only; omega) (by simp; omega)).trans t7'
          have HN : Aside (CM vIt okIt V2 w.heap.size (fun y => cntI d.toList y - cntI (d'.toList.take (i + 1)) y) ∧ Below w.heap.size w V2) := by
            refine ⟨?_, ?_⟩
            · rw [take_snoc (by rw [H'.out.2.1]; omega), ← hx, show (fun y => cntI d.toList y - cntI (d'.toList.take i ++ [(x1, x2)]) y) = fun y => if y = (x1, x2) then cntI d.toList (x1, x2) - cntI (d'.toList.take i) (x1, x2) - 1 else cntI d.toList y - cntI (d'.toList.take i) y from funext (fun y => cntI_less _ _ _ _)]
              exact CV2
            · have b1 : Below w.heap.size w V := by rw [hV]; exact (HM.out.2.alloc (by omega) _).drew
              exact b1.grown g2 (by omega) (fun k ek => by cases ek; exact Nat.le_refl _)
          dsimp only [vIt] at l1 me l2
          clear hcm hld hcn hc c1 c2 hx hbl HM CV okx hs CV2 g1 g2 z1 z2 hcl hll hC hVb hlt2 szV
          rw [hV] at l1 me t7 t7'
          go_wp2_with fail
          go_region
          all_goals
            go_wp2_with fail
            go_roundg (n - (i + 1))
            case measure => omega
            case rel => exact ⟨i + 1, by go_num, by omega, by omega, HN⟩
        · have hltz : ¬ (i : Int) < (n : Int) := by omega
          have e0 : i = n := by omega
          subst e0
          have M2 : Aside (CM vIt okIt wr w.heap.size (fun y => cntI d.toList y - cntI (d'.toList.take i) y)) := HM.out.1
          have B2 : Aside (Below w.heap.size w wr ∧ w.heap.size ≤ wr.heap.size) := ⟨HM.out.2, HM.out.2.size⟩
          have Z2 : ∀ y, cntI d.toList y - cntI (d'.toList.take i) y = 0 := fun y => by
            rw [show d'.toList.take i = d'.toList by rw [← H'.out.2.1, ← Array.length_toList, List.take_length]]
            exact HP.out y
          have Z3 : Aside _ := Z2
          clear HM Z2
          go_wp2_with (refine wpList_range_cm Tryz.underlying113 M2 Z3.out rfl _ rfl rfl ?_; intro w' g RZ0 BZ)
          obtain ⟨r, hr⟩ : ∃ r, r = wr.heap.size := ⟨_, rfl⟩
          rw [← hr] at RZ0 ⊢
          have B3 : Aside (Below w.heap.size w w' ∧ w.heap.size ≤ w'.heap.size ∧ w.heap.size ≤ r) := ⟨Below.next B2.out.1 BZ.out, (Below.next B2.out.1 BZ.out).size, by rw [hr]; exact B2.out.2⟩
          clear hr M2 B2 Z3 BZ
          go_loopg [11] g (fun gg _ wr => ∃ q : Nat, q ≤ gg ∧ Aside (RZ vIt wr w.heap.size r q ∧ Below w.heap.size w wr ∧ w.heap.size ≤ wr.heap.size))
          case atStart => exact ⟨g, Nat.le_refl _, RZ0.out, B3.out.1, B3.out.2.1⟩
          case round =>
            obtain ⟨q, hq, HR⟩ := hrel
            have R1 : Aside (RZ vIt wr w.heap.size r q) := HR.out.1
            go_wp2_with (refine wpList_next_rz R1 rfl _ rfl rfl ?_ (fun y w2 q' hlt R2 hen hgr => ?_))
            · go_ret
              exact ⟨rfl, HR.out.2.1⟩
            · have NR : Aside (RZ vIt w2 w.heap.size r q' ∧ Below w.heap.size w w2 ∧ w.heap.size ≤ w2.heap.size) := ⟨R2.out, HR.out.2.1.grown hgr.out HR.out.2.2 (fun k ek => by cases ek; exact B3.out.2.2), Nat.le_trans HR.out.2.2 hgr.out.size⟩
              clear R1 R2 HR hgr
              go_wp2_with fail
              go_roundg q'
              case measure => omega
              case rel => exact ⟨q', Nat.le_refl _, NR⟩
end Go.Proofs.YtglgmkikegbchaaGreat

/- spec.Kept: true of a list and one of which a part is permuted. -/
namespace Go.Proofs.YtglgmkikegbchaaGreat
open Go.RowKit Go.Sort Go.Maps

theorem ext_get (d : Array It) (A B i : Nat) (hB : B ≤ d.size) (hi : i < B - A) : (d.extract A B)[i]! = d[A + i]! := by
  rw [getElem!_pos _ i (by simp; omega), getElem!_pos d (A + i) (by omega)]
  simp
theorem Rd2.part {w : World} {blk off : Nat} {d : Array It} (A B : Nat) (hB : B ≤ d.size) (h : Rd2 w (some ⟨blk, off, none⟩) d) : Rd2 w (some ⟨blk, off + A * 2, none⟩) (d.extract A B) := fun h0 => by
  have hs : (d.extract A B).size = B - A := by simp; omega
  rw [hs] at h0
  obtain ⟨b, o, e, hl, hc⟩ := h (by omega)
  cases e
  refine ⟨blk, _, rfl, hl, fun i hi => ?_⟩
  rw [hs] at hi
  rw [ext_get d A B i hB hi]
  have := hc (A + i) (by omega)
  rw [show off + A * 2 + i * 2 = off + (A + i) * 2 by omega]
  exact this

theorem Rd2.partIf {w : World} {blk off : Nat} {d : Array It} (A B cap : Nat) (hB : B ≤ d.size) (hc : B ≤ cap) (h : Rd2 w (some ⟨blk, off, none⟩) d) : Rd2 w (if cap = A then some ⟨blk, off, none⟩ else some ⟨blk, off + A * 2, none⟩) (d.extract A B) := by
  by_cases e : cap = A
  · intro h0
    have : (d.extract A B).size = B - A := by simp; omega
    omega
  · rw [if_neg e]; exact h.part A B hB
theorem part_eq (d d' : Array It) (A B : Nat) (hB : B ≤ d.size) (hB' : B ≤ d'.size) (h : ∀ i, A ≤ i → i < B → d[i]! = d'[i]!) : d.extract A B = d'.extract A B := by
  refine Array.ext (by simp; omega) (fun i h1 h2 => ?_)
  have hi : i < B - A := by simp at h1; omega
  have := h (A + i) (by omega) (by omega)
  rw [← ext_get d A B i hB hi, ← ext_get d' A B i hB' hi, getElem!_pos _ i h1, getElem!_pos _ i h2] at this
  exact this

set_option maxHeartbeats 8000000 in
set_option maxRecDepth 1000000 in
theorem kept_some (blk off blk' off' cap cap' n A B : Nat) (d d' : Array It) (w : World) (h : Rd2 w (some ⟨blk, off, none⟩) d) (h' : Rd2 w (some ⟨blk', off', none⟩) d') (hn : d.size = n) (hc : n ≤ cap) (hc' : n ≤ cap') (hsz : n ≤ 2000) (hr : inR d) (hAB : A ≤ B) (hBn : B ≤ n) (hp : PermIn A B d d') :
    Calls Tryz.prog 29 #[.slice (some ⟨blk, off, none⟩) n cap, .slice (some ⟨blk', off', none⟩) n cap', .int .i64 A, .int .i64 B] w fun e w' => e = .returned (.bool true) ∧ Below w.heap.size w w' := by
  have hn' : d'.size = n := hp.1.trans hn
  have S1 : ∀ W, Below w.heap.size w W → Calls Tryz.prog 30 #[.slice (some ⟨blk, off, none⟩) A cap, .slice (some ⟨blk', off', none⟩) A cap'] W fun e w' => e = .returned (.bool true) ∧ Below W.heap.size W w' := fun W hW => by
    have e := same_calls (some ⟨blk, off + 0 * 2, none⟩) (some ⟨blk', off' + 0 * 2, none⟩) cap cap' (d.extract 0 A) (d'.extract 0 A) W ((Rd2.part 0 A (by omega) h).keep hW) ((Rd2.part 0 A (by omega) h').keep hW) (by simp; omega)
    have eq : d.extract 0 A = d'.extract 0 A := part_eq d d' 0 A (by omega) (by omega) (fun i h1 h2 => (hp.2.1 i (Or.inl h2)).symm)
    rw [show (d.extract 0 A).size = A by simp; omega, show (d'.extract 0 A).size = A by simp; omega, Nat.zero_mul, Nat.add_zero, Nat.add_zero, decide_eq_true eq] at e
    exact e.mono fun e w' ⟨h1, q, h2⟩ => ⟨h1, by rw [h2]; exact below_drewN (Below.refl _ _) q⟩
  have S2 : ∀ W, Below w.heap.size w W → Calls Tryz.prog 30 #[.slice (if cap = B then some ⟨blk, off, none⟩ else some ⟨blk, off + B * 2, none⟩) (n - B) (cap - B), .slice (if cap' = B then some ⟨blk', off', none⟩ else some ⟨blk', off' + B * 2, none⟩) (n - B) (cap' - B)] W fun e w' => e = .returned (.bool true) ∧ Below W.heap.size W w' := fun W hW => by
    have e := same_calls (if cap = B then some ⟨blk, off, none⟩ else some ⟨blk, off + B * 2, none⟩) (if cap' = B then some ⟨blk', off', none⟩ else some ⟨blk', off' + B * 2, none⟩) (cap - B) (cap' - B) (d.extract B n) (d'.extract B n) W ((Rd2.partIf B n cap (by omega) (by omega) h).keep hW) ((Rd2.partIf B n cap' (by omega) (by omega) h').keep hW) (by simp; omega)
    have eq : d.extract B n = d'.extract B n := part_eq d d' B n (by omega) (by omega) (fun i h1 h2 => (hp.2.1 i (Or.inr h1)).symm)
    rw [show (d.extract B n).size = n - B by simp; omega, show (d'.extract B n).size = n - B by simp; omega, decide_eq_true eq] at e
    exact e.mono fun e w' ⟨h1, q, h2⟩ => ⟨h1, by rw [h2]; exact below_drewN (Below.refl _ _) q⟩
  have S3 : ∀ W, Below w.heap.size w W → Calls Tryz.prog 46 #[.slice (if cap = A then some ⟨blk, off, none⟩ else some ⟨blk, off + A * 2, none⟩) (B - A) (cap - A), .slice (if cap' = A then some ⟨blk', off', none⟩ else some ⟨blk', off' + A * 2, none⟩) (B - A) (cap' - A)] W fun e w' => e = .returned (.bool true) ∧ Below W.heap.size W w' := fun W hW =>
    permuted_calls _ _ _ _ (B - A) (d.extract A B) (d'.extract A B) W ((Rd2.partIf A B cap (by omega) (by omega) h).keep hW) ((Rd2.partIf A B cap' (by omega) (by omega) h').keep hW) (by simp; omega) (by omega) (fun i hi => by
      have hi' : i < B - A := by simp at hi; omega
      rw [ext_get d A B i (by omega) hi']
      exact hr _ (by omega)) hp.2.2
  have C1 : ∀ p : Regrown, Calls Tryz.prog 30 #[.slice (some ⟨blk, off, none⟩) A cap, .slice (some ⟨blk', off', none⟩) A cap'] (grow (redrawn w p.d) p.os) fun e w'' => e = .returned (.bool true) ∧ ∃ p : Regrown, w'' = grow (redrawn w p.d) p.os := fun p => Calls.regrown_of (S1 _ (below_regrown w p.d p.os))
  have C2 : ∀ p : Regrown, Calls Tryz.prog 30 #[.slice (if cap = B then some ⟨blk, off, none⟩ else some ⟨blk, off + B * 2, none⟩) (n - B) (cap - B), .slice (if cap' = B then some ⟨blk', off', none⟩ else some ⟨blk', off' + B * 2, none⟩) (n - B) (cap' - B)] (grow (redrawn w p.d) p.os) fun e w'' => e = .returned (.bool true) ∧ ∃ p : Regrown, w'' = grow (redrawn w p.d) p.os := fun p => Calls.regrown_of (S2 _ (below_regrown w p.d p.os))
  have C3 : ∀ p : Regrown, Calls Tryz.prog 46 #[.slice (if cap = A then some ⟨blk, off, none⟩ else some ⟨blk, off + A * 2, none⟩) (B - A) (cap - A), .slice (if cap' = A then some ⟨blk', off', none⟩ else some ⟨blk', off' + A * 2, none⟩) (B - A) (cap' - A)] (grow (redrawn w p.d) p.os) fun e w'' => e = .returned (.bool true) ∧ ∃ p : Regrown, w'' = grow (redrawn w p.d) p.os := fun p => Calls.regrown_of (S3 _ (below_regrown w p.d p.os))
  clear S1 S2 S3
  have mixed : Tryz.prog.follows .mixedOrders = true := by kernel_rfl
  have a1 : (0 : Int) ≤ (A : Int) := by omega
  have a2 : (A : Int) ≤ (cap : Int) := by omega
  have a3 : (A : Int) ≤ (cap' : Int) := by omega
  have a4 : (B : Int) ≤ (n : Int) := by omega
  have a5 : (n : Int) ≤ (cap : Int) := by omega
  have a6 : (n : Int) ≤ (cap' : Int) := by omega
  have a7 : (A : Int) ≤ (B : Int) := by omega
  have a8 : (B : Int) ≤ (cap : Int) := by omega
  have a9 : (B : Int) ≤ (cap' : Int) := by omega
  have a0 : (0 : Int) ≤ (B : Int) := by omega
  clear h h' hn hn' hp hr hc hc' hAB hBn
  go_enter Tryz.func29, Tryz.ntmps29
  go_wp2_with fail
  refine wp_region_quiet_below (by assumption) (by kernel_rfl) ?_
  repeat' (quiet_step (first | with_reducible exact C1 _ | with_reducible exact C2 _ | with_reducible exact C3 _))
  all_goals
    refine wpQuiet_nil ?_
    intro _ hw'
    obtain ⟨⟨nq, osq⟩, hw''⟩ := hw'
    subst hw''
    go_wp2_with fail
  all_goals
    go_ret
    exact ⟨rfl, below_regrown _ _ _⟩

theorem rd2_nil (w : World) (a : Option Addr) : Rd2 w a #[] := fun h => absurd h (by simp)
theorem same_nil (a a' : Option Addr) (cap cap' : Nat) (w : World) (p : Regrown) : Calls Tryz.prog 30 #[.slice a 0 cap, .slice a' 0 cap'] (grow (redrawn w p.d) p.os) fun e w'' => e = .returned (.bool true) ∧ ∃ p : Regrown, w'' = grow (redrawn w p.d) p.os :=
  Calls.regrown_of ((same_calls a a' cap cap' #[] #[] _ (rd2_nil _ _) (rd2_nil _ _) (by simp)).mono fun e w' ⟨h1, q, h2⟩ => ⟨h1, by rw [h2]; exact below_drewN (Below.refl _ _) q⟩)
theorem permuted_nil (a a' : Option Addr) (cap cap' : Nat) (w : World) (p : Regrown) : Calls Tryz.prog 46 #[.slice a 0 cap, .slice a' 0 cap'] (grow (redrawn w p.d) p.os) fun e w'' => e = .returned (.bool true) ∧ ∃ p : Regrown, w'' = grow (redrawn w p.d) p.os :=
  Calls.regrown_of (permuted_calls a a' cap cap' 0 #[] #[] _ (rd2_nil _ _) (rd2_nil _ _) rfl (by omega) (fun i hi => absurd hi (by simp)) (List.Perm.refl _))

set_option maxHeartbeats 8000000 in
set_option maxRecDepth 1000000 in
theorem kept_none (blk' cap' : Nat) (w : World) :
    Calls Tryz.prog 29 #[.slice none 0 0, .slice (some ⟨blk', 0, none⟩) 0 cap', .int .i64 0, .int .i64 0] w fun e w' => e = .returned (.bool true) ∧ Below w.heap.size w w' := by
  have mixed : Tryz.prog.follows .mixedOrders = true := by kernel_rfl
  go_enter Tryz.func29, Tryz.ntmps29
  go_wp2_with fail
  refine wp_region_quiet_below (by assumption) (by kernel_rfl) ?_
  repeat' (quiet_step (first | with_reducible exact same_nil _ _ _ _ w _ | with_reducible exact permuted_nil _ _ _ _ w _))
  all_goals
    refine wpQuiet_nil ?_
    intro _ hw'
    obtain ⟨⟨nq, osq⟩, hw''⟩ := hw'
    subst hw''
    go_wp2_with fail
  all_goals
    go_ret
    exact ⟨rfl, below_regrown _ _ _⟩

set_option maxHeartbeats 8000000 in
set_option maxRecDepth 1000000 in
theorem kept_zero (ad : Addr) (cap blk' cap' : Nat) (w : World) :
    Calls Tryz.prog 29 #[.slice (some ad) 0 cap, .slice (some ⟨blk', 0, none⟩) 0 cap', .int .i64 0, .int .i64 0] w fun e w' => e = .returned (.bool true) ∧ Below w.heap.size w w' := by
  have mixed : Tryz.prog.follows .mixedOrders = true := by kernel_rfl
  go_enter Tryz.func29, Tryz.ntmps29
  go_wp2_with fail
  refine wp_region_quiet_below (by assumption) (by kernel_rfl) ?_
  repeat' (quiet_step (first | with_reducible exact same_nil _ _ _ _ w _ | with_reducible exact permuted_nil _ _ _ _ w _))
  all_goals
    refine wpQuiet_nil ?_
    intro _ hw'
    obtain ⟨⟨nq, osq⟩, hw''⟩ := hw'
    subst hw''
    go_wp2_with fail
  all_goals
    go_ret
    exact ⟨rfl, below_regrown _ _ _⟩
end Go.Proofs.YtglgmkikegbchaaGreat

/- A list as an argument; Kept, whatever the list's address. -/
namespace Go.Proofs.YtglgmkikegbchaaGreat
open Go.RowKit Go.Sort Go.Maps

/-- A list that came in: its elements, its capacity. -/
structure Arg (w : World) (a : Option Addr) (cap : Nat) (d : Array It) : Prop where
  rd : Rd2 w a d
  le : d.size ≤ cap
  nil : a = none → d.size = 0 ∧ cap = 0
theorem Arg.keep {w w' : World} {a : Option Addr} {cap : Nat} {d : Array It} (h : Arg w a cap d) (hb : Below w.heap.size w w') : Arg w' a cap d := ⟨h.rd.keep hb, h.le, h.nil⟩

theorem kept_calls (a : Option Addr) (cap cap' n A B b : Nat) (d d' : Array It) (w : World) (h : Arg w a cap d) (h' : Rd2 w (some ⟨b, 0, none⟩) d') (hn : d.size = n) (hc' : n ≤ cap') (hsz : n ≤ 2000) (hr : inR d) (hAB : A ≤ B) (hBn : B ≤ n) (hp : PermIn A B d d') :
    Calls Tryz.prog 29 #[.slice a n cap, .slice (some ⟨b, 0, none⟩) n cap', .int .i64 A, .int .i64 B] w fun e w' => e = .returned (.bool true) ∧ Below w.heap.size w w' := by
  by_cases h0 : n = 0
  · obtain rfl : A = 0 := by omega
    obtain rfl : B = 0 := by omega
    subst h0
    cases a with
    | none =>
      obtain ⟨_, rfl⟩ := h.nil rfl
      exact kept_none b cap' w
    | some ad => exact kept_zero ad cap b cap' w
  · obtain ⟨blk, off, rfl, _, _⟩ := h.rd (by omega)
    exact kept_some blk off b 0 cap cap' n A B d d' w h.rd h' hn (by have := h.le; omega) hc' hsz hr hAB hBn hp
end Go.Proofs.YtglgmkikegbchaaGreat

/- works: three elements, sorted. -/
namespace Go.Proofs.YtglgmkikegbchaaGreat
open Go.RowKit Go.Sort

def three : Array It := #[(3, 0), (1, 1), (2, 2)]
def up0 : Ordr := ⟨0, 0, 0, 0, 0⟩
theorem three_sorted : insertionSort (ltC (cfO up0)) three 0 three.size = #[(1, 1), (2, 2), (3, 0)] := by decide +kernel

set_option maxHeartbeats 2000000 in
set_option maxRecDepth 1000000 in
theorem works_calls (w : World) : Calls Tryz.prog 25 #[] w fun e w' => e = .returned (.bool true) ∧ Below w.heap.size w w' := by
  go_enter Tryz.func25, Tryz.ntmps25
  go_wp2_with fail
  obtain ⟨W, hW⟩ : ∃ W, W = w.alloc (Obj.cells #[.int .i64 3, .int .i64 0, .int .i64 1, .int .i64 1, .int .i64 2, .int .i64 2] 49) := ⟨_, rfl⟩
  rw [← hW]
  have B0 : Below w.heap.size w W := by rw [hW]; exact (Below.refl _ w).alloc (Nat.le_refl _) _
  have hsz : W.heap.size = w.heap.size + 1 := by rw [hW]; simp
  have c0 : W.cell? ⟨w.heap.size, 0, none⟩ = some (.int .i64 3) := by rw [hW]; simp [go_sem]
  have c1 : W.cell? ⟨w.heap.size, 1, none⟩ = some (.int .i64 0) := by rw [hW]; simp [go_sem]
  have c2 : W.cell? ⟨w.heap.size, 2, none⟩ = some (.int .i64 1) := by rw [hW]; simp [go_sem]
  have c3 : W.cell? ⟨w.heap.size, 3, none⟩ = some (.int .i64 1) := by rw [hW]; simp [go_sem]
  have c4 : W.cell? ⟨w.heap.size, 4, none⟩ = some (.int .i64 2) := by rw [hW]; simp [go_sem]
  have c5 : W.cell? ⟨w.heap.size, 5, none⟩ = some (.int .i64 2) := by rw [hW]; simp [go_sem]
  have R : Rd2 W (some ⟨w.heap.size, 0, none⟩) three := fun _ => ⟨_, _, rfl, by omega, fun i hi => by
    have h3 : i < 3 := hi
    rcases (show i = 0 ∨ i = 1 ∨ i = 2 by omega) with rfl | rfl | rfl
    · exact ⟨c0, c1⟩
    · exact ⟨c2, c3⟩
    · exact ⟨c4, c5⟩⟩
  clear hW
  refine (whole0_small (some ⟨w.heap.size, 0, none⟩) 3 three up0 (by decide) (by decide) W R (by decide)).mono ?_
  rintro e w1 ⟨v, rfl, b, cp, rfl, hb1, hb2, hcap, hH, hbel⟩
  rw [three_sorted] at hH
  rw [three_sorted] at hcap
  rw [three_sorted]
  have k0 := (hbel.cell (p := ⟨w.heap.size, 0, none⟩) (by dsimp only; omega)).trans c0
  have k1 := (hbel.cell (p := ⟨w.heap.size, 1, none⟩) (by dsimp only; omega)).trans c1
  have k2 := (hbel.cell (p := ⟨w.heap.size, 2, none⟩) (by dsimp only; omega)).trans c2
  have k3 := (hbel.cell (p := ⟨w.heap.size, 3, none⟩) (by dsimp only; omega)).trans c3
  have k4 := (hbel.cell (p := ⟨w.heap.size, 4, none⟩) (by dsimp only; omega)).trans c4
  have k5 := (hbel.cell (p := ⟨w.heap.size, 5, none⟩) (by dsimp only; omega)).trans c5
  have B1 : Aside (Below w.heap.size w w1) := B0.trans (hbel.mono (by omega))
  have R1 : Aside (∀ W', w1.heap.size ≤ W'.heap.size → Below w1.heap.size w1 W' → Rd2 W' (some ⟨b, 0, none⟩) #[(1, 1), (2, 2), (3, 0)]) := fun W' _ hB _ =>
    ⟨_, _, rfl, by have := hB.size; omega, fun i hi => ⟨(hB.cell (p := ⟨b, 0 + i * 2, none⟩) hb2).trans (hH i hi).1, (hB.cell (p := ⟨b, 0 + i * 2 + 1, none⟩) hb2).trans (hH i hi).2.1⟩⟩
  clear c0 c1 c2 c3 c4 c5 R hH hbel hb1 hb2 B0 hsz
  go_wp2_with fail
  have mixed : Tryz.prog.follows .mixedOrders = true := by kernel_rfl
  obtain ⟨V, hV⟩ : ∃ V, V = (w1.alloc (Obj.cells #[.int .i64 1, .int .i64 1, .int .i64 2, .int .i64 2, .int .i64 3, .int .i64 0] 49)).drew := ⟨_, rfl⟩
  have BV : Below w1.heap.size w1 V := by rw [hV]; exact ((Below.refl _ w1).alloc (Nat.le_refl _) _).drew
  have RV : Rd2 V (some ⟨w1.heap.size, 0, none⟩) #[(1, 1), (2, 2), (3, 0)] := fun _ => ⟨_, _, rfl, by rw [hV]; simp, fun i hi => by
    have h3 : i < 3 := hi
    rw [hV]
    rcases (show i = 0 ∨ i = 1 ∨ i = 2 by omega) with rfl | rfl | rfl
    · exact ⟨by simp [go_sem], by simp [go_sem]⟩
    · exact ⟨by simp [go_sem], by simp [go_sem]⟩
    · exact ⟨by simp [go_sem], by simp [go_sem]⟩⟩
  have SV := same_calls (some ⟨b, 0, none⟩) (some ⟨w1.heap.size, 0, none⟩) cp 3 #[(1, 1), (2, 2), (3, 0)] #[(1, 1), (2, 2), (3, 0)] V (R1.out V BV.size BV) RV (by decide)
  have B2 : Aside (∀ q, Below w.heap.size w (V.drewN q)) := fun q => below_drewN (B1.out.trans (BV.mono B1.out.size)) q
  rw [hV] at SV B2
  clear hV BV RV R1 B1
  go_region_held (fun w' => w'.cell? ⟨w.heap.size, 0, none⟩ = some (.int .i64 3) ∧ w'.cell? ⟨w.heap.size, 1, none⟩ = some (.int .i64 0) ∧ w'.cell? ⟨w.heap.size, 2, none⟩ = some (.int .i64 1) ∧ w'.cell? ⟨w.heap.size, 3, none⟩ = some (.int .i64 1) ∧ w'.cell? ⟨w.heap.size, 4, none⟩ = some (.int .i64 2) ∧ w'.cell? ⟨w.heap.size, 5, none⟩ = some (.int .i64 2)) (go_keep) (first | (go_at_call 30; refine SV.mono ?_; rintro e w' ⟨rfl, q, rfl⟩))
  go_wp2_with fail
  go_ret
  exact ⟨rfl, by have h := B2.out q; simpa [World.drewN, World.drew, Nat.add_assoc] using h⟩
end Go.Proofs.YtglgmkikegbchaaGreat

/- A list of elements under construction: a row of the call's own. -/
namespace Go.Proofs.YtglgmkikegbchaaGreat
open Go.RowKit Go.Sort

theorem cells2_append : ∀ (l m : List It), cells2 (l ++ m) = cells2 l ++ cells2 m
  | [], m => rfl
  | x :: r, m => by simp [cells2, cells2_append r m]

/-- What an owned row holds, as a slice of elements. -/
theorem own_holds {w : World} {base : Nat} {v : Value} {l : List It} (h : w.ownsRow base 49 2 v l.length (cells2 l)) :
    ∃ a cap, v = .slice a l.length cap ∧ Rd2 w a l.toArray ∧ (v = .slice none 0 0 ∨ ∃ g, a = some ⟨g, 0, none⟩ ∧ base ≤ g ∧ g < w.heap.size ∧ l.length ≤ cap ∧ Holds2 w g 0 l.toArray) := by
  obtain ⟨hl, ⟨rfl, h0⟩ | ⟨g, cap, cur, rfl, hb, hg, hnc, _, hcs, ht⟩⟩ := h
  · refine ⟨none, 0, by rw [h0], fun hp => ?_, Or.inl rfl⟩
    simp at hp
    omega
  · have hgl : g < w.heap.size := by
      rcases Nat.lt_or_ge g w.heap.size with h | h
      · exact h
      · rw [Array.getElem?_eq_none h] at hg; cases hg
    have hH : Holds2 w g 0 l.toArray := fun i hi => by
      have hi' : i < l.length := by simpa using hi
      have c : ∀ k u, k < l.length * 2 → (cells2 l)[k]? = some u → w.cell? ⟨g, 0 + k, none⟩ = some u := fun k u hk hu => by
        simp only [World.cell?, hg, Nat.zero_add]
        rw [← ht, List.getElem?_take_of_lt hk] at hu
        simpa using hu
      have f : ∀ k, w.frozen? ⟨g, k, none⟩ = false := fun k => by simp [World.frozen?, hg]
      exact ⟨by have := c (i * 2) _ (by omega) (cells2_fst l i hi'); simpa using this, by have := c (i * 2 + 1) _ (by omega) (cells2_snd l i hi'); simpa [Nat.add_assoc] using this, f _, f _⟩
    exact ⟨_, cap, rfl, fun _ => ⟨g, 0, rfl, hgl, fun i hi => ⟨(hH i hi).1, (hH i hi).2.1⟩⟩, Or.inr ⟨g, rfl, hb, hgl, hnc, hH⟩⟩

theorem own_below {w w' : World} {base : Nat} {e : TypeId} {size n : Nat} {v : Value} {xs : List Value} (h : w.ownsRow base e size v n xs) (hb : Below w.heap.size w w') : w'.ownsRow base e size v n xs := by
  obtain ⟨hl, h | ⟨g, cap, cur, e1, e2, hg, r⟩⟩ := h
  · exact ⟨hl, Or.inl h⟩
  · have hgl : g < w.heap.size := by
      rcases Nat.lt_or_ge g w.heap.size with h | h
      · exact h
      · rw [Array.getElem?_eq_none h] at hg; cases hg
    exact ⟨hl, Or.inr ⟨g, cap, cur, e1, e2, (hb.block g hgl).trans hg, r⟩⟩

theorem own_grown {w0 w w' : World} {base : Nat} {e : TypeId} {size n : Nat} {v : Value} {xs : List Value} (h : w.ownsRow base e size v n xs) (hb : Below w0.heap.size w0 w) (hB : w0.heap.size ≤ base) (hg : w.grownBy w' v.ownBlock) : Below w0.heap.size w0 w' := by
  refine hb.grown hg hb.size (fun k ek => ?_)
  obtain ⟨_, ⟨rfl, _⟩ | ⟨g, cap, cur, rfl, e2, _⟩⟩ := h
  · cases ek
  · cases ek; exact Nat.le_trans hB e2
end Go.Proofs.YtglgmkikegbchaaGreat

/- spec.Untagged, spec.Text. -/
namespace Go.Proofs.YtglgmkikegbchaaGreat
open Go.RowKit Go.Sort

def untag (l : List It) : List It := l.map fun x => (x.1, 0)
theorem untag_take {d : Array It} {i : Nat} (hi : i < d.size) : untag (d.toList.take (i + 1)) = untag (d.toList.take i) ++ [(d[i]!.1, 0)] := by
  unfold untag
  rw [List.take_succ_eq_append_getElem (by simpa using hi), List.map_append]
  simp [getElem!_pos d i hi]

set_option maxHeartbeats 2000000 in
set_option maxRecDepth 1000000 in
theorem untagged_calls (a : Option Addr) (cap n : Nat) (d : Array It) (w : World) (h : Rd2 w a d) (hn : d.size = n) (hsz : n ≤ 2000) :
    Calls Tryz.prog 32 #[.slice a n cap] w fun e w' => ∃ a' cap', e = .returned (.slice a' n cap') ∧ Rd2 w' a' (untag d.toList).toArray ∧ Below w.heap.size w w' := by
  obtain ⟨i0, hi, hz0, hz1, hz2⟩ := info_parts (show (Tryz.prog.info? 49).map (fun i => (i.zero, i.size, i.bytes)) = some (some (.agg #[.int .i64 0, .int .i64 0]), 2, 16) by kernel_rfl)
  have hI : Aside (Tryz.prog.info? 49 = some i0 ∧ i0.zero = some (.agg #[.int .i64 0, .int .i64 0]) ∧ i0.size = 2 ∧ i0.bytes = 16) := ⟨hi, hz0, hz1, hz2⟩
  have H : Aside (Rd2 w a d) := h
  have N : Aside (d.size = n) := hn
  clear h hn hi hz0 hz1 hz2
  go_enter Tryz.func32, Tryz.ntmps32
  go_wp2_with fail
  go_loopg [3, 8] n (fun g vo vi wr => ∃ i : Nat, vi = .int .i64 i ∧ i ≤ n ∧ n - i ≤ g ∧ Aside (wr.ownsRow w.heap.size 49 2 vo i (cells2 (untag (d.toList.take i))) ∧ Below w.heap.size w wr))
  case atStart => exact ⟨0, rfl, Nat.zero_le _, by omega, World.ownsRow_nil _ _ _ _, Below.refl _ _⟩
  case round =>
    obtain ⟨i, rfl, hin, hg, HO⟩ := hrel
    by_cases hlt : i < n
    · have hltz : (i : Int) < (n : Int) := by omega
      obtain ⟨blk, off, rfl, hbl, hc⟩ := H.out (by rw [N.out]; omega)
      obtain ⟨⟨x1, x2⟩, hx⟩ : ∃ x : It, x = d[i]! := ⟨_, rfl⟩
      obtain ⟨c1, c2⟩ := hc i (by rw [N.out]; omega)
      rw [← hx] at c1 c2
      dsimp only at c1 c2
      have q1 := (HO.out.2.cell (p := ⟨blk, off + i * 2, none⟩) hbl).trans c1
      have q2 := (HO.out.2.cell (p := ⟨blk, off + i * 2 + 1, none⟩) hbl).trans c2
      have X : Aside (x1 = d[i]!.1) := by show x1 = _; rw [← hx]
      have O2 : Aside (((wr.alloc (.cells #[.int .i64 x1, .int .i64 x2] 49)).alloc (.cells #[.int .i64 x1, .int .i64 0] 49)).ownsRow w.heap.size 49 2 u3 i (cells2 (untag (d.toList.take i)))) := own_below (own_below HO.out.1 (below_alloc _ _)) (below_alloc _ _)
      have B2 : Aside (Below w.heap.size w ((wr.alloc (.cells #[.int .i64 x1, .int .i64 x2] 49)).alloc (.cells #[.int .i64 x1, .int .i64 0] 49)) ∧ w.heap.size ≤ ((wr.alloc (.cells #[.int .i64 x1, .int .i64 x2] 49)).alloc (.cells #[.int .i64 x1, .int .i64 0] 49)).heap.size) := ⟨Below.next (Below.next HO.out.2 (below_alloc _ _)) (below_alloc _ _), (Below.next (Below.next HO.out.2 (below_alloc _ _)) (below_alloc _ _)).size⟩
      clear hc c1 c2 hx hbl HO
      obtain ⟨hi, hz0, hz1, hz2⟩ := hI.out
      go_wp2_with (at_builtin; refine wpList_append_own _ rfl _ _ 22 rfl w.heap.size 49 i0 (.agg #[.int .i64 0, .int .i64 0]) 2 16 Tryz.underlying22 hi hz0 hz1 hz2 rfl (by decide) _ i _ rfl O2.out ⟨wr.heap.size + 1, 0, none⟩ 1 1 [.int .i64 x1, .int .i64 0] rfl rfl ?c1 ?c2 ?c3 ?c4 ?c5 ?_)
      case c1 =>
        intro j u hj
        match j, hj with
        | 0, hj => simp at hj; subst hj; simp [Addr.add, go_sem]
        | 1, hj => simp at hj; subst hj; simp [Addr.add, go_sem]
      case c2 => intro u hu; simp at hu; rcases hu with rfl | rfl <;> rfl
      case c3 => unfold maxLen; omega
      case c4 => omega
      case c5 => exact B2.out.2
      intro v' w1 hown' hgrow _
      have O3 : Aside (w1.ownsRow w.heap.size 49 2 v' (i + 1) (cells2 (untag (d.toList.take (i + 1)))) ∧ Below w.heap.size w w1) := by
        refine ⟨?_, own_grown O2.out B2.out.1 (Nat.le_refl _) hgrow⟩
        rw [untag_take (by rw [N.out]; omega), cells2_append, ← X.out]
        exact hown'
      clear hi hz0 hz1 hz2 q1 q2 O2 B2 hown' hgrow
      go_wp2_with fail
      go_roundg (n - (i + 1))
      case measure => omega
      case rel => exact ⟨i + 1, by go_num, by omega, by omega, O3⟩
    · have hltz : ¬ (i : Int) < (n : Int) := by omega
      go_wp2_with fail
      go_ret
      obtain ⟨h1, h2⟩ := HO.out
      have e0 : i = n := by omega
      subst e0
      have e1 : (untag (d.toList.take i)) = untag d.toList := by rw [← N.out, ← Array.length_toList, List.take_length]
      have e2 : (untag d.toList).length = i := by rw [← N.out]; simp [untag]
      rw [e1] at h1
      conv at h1 => rw [← e2]
      obtain ⟨a', cap', rfl, hr, _⟩ := own_holds h1
      rw [e2]
      exact ⟨a', ⟨cap', rfl⟩, hr, h2⟩

def textB (t : Int) (d : Array It) (o : Ordr) : Bool := if t = 2 then decide (o.kind = 0) && decide (d = (untag d.toList).toArray) else decide (t = 0) || decide (t = 1)

set_option maxHeartbeats 2000000 in
set_option maxRecDepth 1000000 in
theorem text_calls (t : Int) (a : Option Addr) (cap n : Nat) (d : Array It) (o : Ordr) (w : World) (h : Rd2 w a d) (hn : d.size = n) (hsz : n ≤ 2000) :
    Calls Tryz.prog 24 #[.int .i64 t, .slice a n cap, vOrd o] w fun e w' => e = .returned (.bool (textB t d o)) ∧ Below w.heap.size w w' := by
  obtain ⟨k, s, m0, m1, m2⟩ := o
  unfold textB
  have B' : Aside (Below w.heap.size w (w.alloc (.cells #[.int .i64 k, .int .i64 s, .int .u64 m0, .int .u64 m1, .int .u64 m2] 26))) := below_alloc w _
  have H : Aside (Rd2 w a d) := h
  have HU := untagged_calls a cap n d (w.alloc (.cells #[.int .i64 k, .int .i64 s, .int .u64 m0, .int .u64 m1, .int .u64 m2] 26)) (h.keep B'.out) hn hsz
  have N : Aside (d.size = n) := hn
  clear h hn
  by_cases h2 : t = 2
  · rw [if_pos h2]
    dsimp only
    subst h2
    by_cases hk : k = 0
    · subst hk
      rw [show decide ((0 : Int) = 0) = true from rfl, Bool.true_and]
      go_enter Tryz.func24, Tryz.ntmps24
      go_wp2_with fail
      refine HU.mono ?_
      rintro e w1 ⟨a', cap', rfl, hr, hb⟩
      have hS := same_calls a a' cap cap' d (untag d.toList).toArray w1 ((H.out.keep B'.out).keep hb) hr (by rw [N.out]; exact hsz)
      rw [N.out, show (untag d.toList).toArray.size = n by rw [← N.out]; simp [untag]] at hS
      have B2 : Aside (Below w.heap.size w w1) := Below.next B'.out hb
      clear hr hb H HU
      go_wp2_with fail
      refine hS.mono ?_
      rintro e w2 ⟨rfl, q, rfl⟩
      go_wp2_with fail
      go_ret
      exact ⟨rfl, below_drewN B2.out q⟩
    · rw [show decide (k = 0) = false from decide_eq_false hk, Bool.false_and]
      clear HU
      go_enter Tryz.func24, Tryz.ntmps24
      go_wp2_with fail
      go_ret
      exact ⟨rfl, B'.out⟩
  · rw [if_neg h2]
    clear HU
    by_cases h0 : t = 0
    · subst h0
      go_enter Tryz.func24, Tryz.ntmps24
      go_wp2_with fail
      go_ret
      exact ⟨rfl, B'.out⟩
    · go_enter Tryz.func24, Tryz.ntmps24
      go_wp2_with fail
      go_ret
      exact ⟨rfl, B'.out⟩
end Go.Proofs.YtglgmkikegbchaaGreat

/- impl.Inner, by a function that compares. -/
namespace Go.Proofs.YtglgmkikegbchaaGreat
open Go.RowKit Go.Sort

/-- Numbers that were told: in memory that is new since W. -/
def NumsAt (W W' : World) (nv : Value) (nums : Array Int) : Prop := ∃ na cap, nv = .slice na nums.size cap ∧ RdN W' na nums ∧ ∀ blk off, na = some ⟨blk, off, none⟩ → 0 < nums.size → W.heap.size ≤ blk

/-- What Inner gives. -/
def InnerTo (w : World) (d' : Array It) (nums : Array Int) (e : Ending) (w' : World) : Prop := ∃ b cap na ncap, e = .returned (.tuple #[.slice (some ⟨b, 0, none⟩) d'.size cap, .slice na nums.size ncap, .bool true]) ∧
  w.heap.size ≤ b ∧ b < w'.heap.size ∧ d'.size ≤ cap ∧ Holds2 w' b 0 d' ∧ RdN w' na nums ∧ Below w.heap.size w w'

theorem inner1_idle (p q r : Addr) (w : World) (u : FrameMode) (h : w.cell? p = some (.bool true)) :
    CallsD Tryz.prog 38 #[.pointer (some p), .pointer (some q), .pointer (some r)] u w fun e u' w' => e = .returned (.tuple #[]) ∧ u' = u ∧ w' = w := by
  have : CallsD Tryz.prog 38 #[.pointer (some p), .pointer (some q), .pointer (some r)] u w fun e u' w' => u' = u ∧ (e = .returned (.tuple #[]) ∧ w' = w) := by
    go_enter_d Tryz.func38, Tryz.ntmps38
    go_wp2_with fail
    go_end0
    exact ⟨rfl, rfl⟩
  exact this.mono fun e u' w' ⟨h1, h2, h3⟩ => ⟨h2, h1, h3⟩

theorem boxes4 {w w1 : World} {c0 : Array Value} {t0 t1 t2 t3 : TypeId} {v1 v2 v3 : Value} (hbel : Below (w.heap.size + 1 + 1 + 1 + 1) ((((w.alloc (.cells c0 t0)).alloc (.cells #[v1] t1)).alloc (.cells #[v2] t2)).alloc (.cells #[v3] t3)) w1) :
    w1.heap[w.heap.size]? = some (.cells c0 t0 (0, 0)) ∧ w1.heap[w.heap.size + 1]? = some (.cells #[v1] t1 (0, 0)) ∧ w1.heap[w.heap.size + 1 + 1]? = some (.cells #[v2] t2 (0, 0)) ∧ w1.heap[w.heap.size + 1 + 1 + 1]? = some (.cells #[v3] t3 (0, 0)) := by
  refine ⟨?_, ?_, ?_, ?_⟩
  · rw [hbel.block _ (by omega)]; show ((((w.heap.push _).push _).push _).push _)[_]? = _; simp only [Array.getElem?_push, Array.size_push]; repeat (first | rw [if_pos trivial] | rw [if_pos rfl] | rw [if_neg (by omega)])
  · rw [hbel.block _ (by omega)]; show ((((w.heap.push _).push _).push _).push _)[_]? = _; simp only [Array.getElem?_push, Array.size_push]; repeat (first | rw [if_pos trivial] | rw [if_pos rfl] | rw [if_neg (by omega)])
  · rw [hbel.block _ (by omega)]; show ((((w.heap.push _).push _).push _).push _)[_]? = _; simp only [Array.getElem?_push, Array.size_push]; repeat (first | rw [if_pos trivial] | rw [if_pos rfl] | rw [if_neg (by omega)])
  · rw [hbel.block _ (by omega)]; show ((((w.heap.push _).push _).push _).push _)[_]? = _; simp only [Array.getElem?_push, Array.size_push]; repeat (first | rw [if_pos trivial] | rw [if_pos rfl] | rw [if_neg (by omega)])
theorem cell_at {w : World} {b i : Nat} {c : Array Value} {t : TypeId} {v : Value} (h : w.heap[b]? = some (.cells c t (0, 0))) (hv : c[i]? = some v) : w.cell? ⟨b, i, none⟩ = some v := by simp [World.cell?, h, hv]
theorem frozen_at {w : World} {b i : Nat} {c : Array Value} {t : TypeId} (h : w.heap[b]? = some (.cells c t (0, 0))) : w.frozen? ⟨b, i, none⟩ = false := by simp [World.frozen?, h]

theorem holds2_below {w w' : World} {b : Nat} {d : Array It} (h : Holds2 w b 0 d) (hb : w'.heap[b]? = w.heap[b]?) : Holds2 w' b 0 d := Holds2_of_block hb h

set_option maxHeartbeats 2000000 in
set_option maxRecDepth 1000000 in
theorem inner_c (f : Int) (a : Option Addr) (cap : Nat) (d d' : Array It) (o : Ordr) (na : Option Addr) (n ncap : Nat) (ns nums : Array Int) (w : World) (h : Rd2 w a d) (hN : RdN w na ns) (hsz : d.size ≤ 2000) (hd : d'.size = d.size)
    (hm : ∀ W, Calls Tryz.prog 40 #[.int .i64 f] W fun e w' => e = .returned (.int .i64 n) ∧ w' = W)
    (HB : ∀ (W : World) (b cap' : Nat), b < W.heap.size → Holds2 W b 0 d → RdN W na ns → Calls Tryz.prog 42 #[.int .i64 f, .slice (some ⟨b, 0, none⟩) d.size cap', .func (.func 43) #[vOrd o] #[], .slice na n ncap] W fun e W' => ∃ nv, e = .returned nv ∧ St2 W b 0 d' W' ∧ NumsAt W W' nv nums) :
    Calls Tryz.prog 28 #[.int .i64 0, .int .i64 f, .slice a d.size cap, vOrd o, .slice na n ncap] w (InnerTo w d' nums) := by
  have H : Aside (Rd2 w a d ∧ RdN w na ns) := ⟨h, hN⟩
  have hB : Aside (∀ (W : World) (b cap' : Nat), b < W.heap.size → Holds2 W b 0 d → RdN W na ns → Calls Tryz.prog 42 #[.int .i64 f, .slice (some ⟨b, 0, none⟩) d.size cap', .func (.func 43) #[vOrd o] #[], .slice na n ncap] W fun e W' => ∃ nv, e = .returned nv ∧ St2 W b 0 d' W' ∧ NumsAt W W' nv nums) := HB
  have D : Aside (d'.size = d.size) := hd
  clear h hN HB hd
  obtain ⟨k, s, m0, m1, m2⟩ := o
  have hmf : ∀ (fn : Fn) (first cap : Array Value) (w : World), (Instr.makeFunc fn first cap).run Tryz.prog w = .ok (.func fn first cap) w := fun _ _ _ _ => rfl
  go_enter_defers Tryz.func28, Tryz.ntmps28
  go_wp2_with fail
  refine (hm _).mono ?_
  rintro e W0 ⟨rfl, rfl⟩
  go_wp2_with fail
  have BX : Below w.heap.size w ((((w.alloc (.cells #[.int .i64 k, .int .i64 s, .int .u64 m0, .int .u64 m1, .int .u64 m2] 26)).alloc (.cells #[.slice none 0 0] 22)).alloc (.cells #[.slice none 0 0] 29)).alloc (.cells #[.bool false] 4)) :=
    Below.next (Below.next (Below.next (below_alloc _ _) (below_alloc _ _)) (below_alloc _ _)) (below_alloc _ _)
  refine (copied_calls a cap d _ (H.out.1.keep BX) hsz).mono ?_
  rintro e w1 ⟨v, rfl, b, c2, rfl, hb1, hb2, hcap, hH, hbel⟩
  simp only [World.size_alloc] at hb1 hbel
  have hsz1 : w.heap.size + 4 ≤ w1.heap.size := by have := hbel.size; simpa using this
  obtain ⟨hb0, hb10, hb11, hb12⟩ := boxes4 hbel
  have k0 := cell_at (i := 0) hb0 rfl
  have k1 := cell_at (i := 1) hb0 rfl
  have k2 := cell_at (i := 2) hb0 rfl
  have k3 := cell_at (i := 3) hb0 rfl
  have k4 := cell_at (i := 4) hb0 rfl
  have c10 := cell_at (i := 0) hb10 rfl
  have f10 := frozen_at (i := 0) hb10
  have c11 := cell_at (i := 0) hb11 rfl
  have f11 := frozen_at (i := 0) hb11
  have c12 := cell_at (i := 0) hb12 rfl
  have f12 := frozen_at (i := 0) hb12
  clear hb0 hb10 hb11 hb12
  have B1 : Aside (Below w.heap.size w w1) := BX.trans (hbel.mono (by omega))
  obtain ⟨W, hW⟩ : ∃ W, W = w1.setCell ⟨w.heap.size + 1, 0, none⟩ (.slice (some ⟨b, 0, none⟩) d.size c2) := ⟨_, rfl⟩
  have szW : W.heap.size = w1.heap.size := by rw [hW]; simp
  have HW : Holds2 W b 0 d := by rw [hW]; exact Holds2_of_block (Below.heap_setCell _ _ _ _ (by dsimp only; omega)) hH
  have BW : Aside (Below w.heap.size w W) := by show Below _ _ _; rw [hW]; exact B1.out.setCell (by dsimp only; omega) _
  have hC := hB.out W b c2 (by omega) HW (H.out.2.keep BW.out)
  have d10 : W.cell? ⟨w.heap.size + 1, 0, none⟩ = some (.slice (some ⟨b, 0, none⟩) d.size c2) := by rw [hW]; exact World.cell?_setCell_same _ _ _ c10
  have e10 : W.frozen? ⟨w.heap.size + 1, 0, none⟩ = false := by rw [hW, World.frozen?_setCell]; exact f10
  have d11 : W.cell? ⟨w.heap.size + 1 + 1, 0, none⟩ = some (.slice none 0 0) := by rw [hW, World.cell?_of_block (Below.heap_setCell _ _ _ _ (by dsimp only; omega))]; exact c11
  have e11 : W.frozen? ⟨w.heap.size + 1 + 1, 0, none⟩ = false := by rw [hW, World.frozen?_of_block (Below.heap_setCell _ _ _ _ (by dsimp only; omega))]; exact f11
  have d12 : W.cell? ⟨w.heap.size + 1 + 1 + 1, 0, none⟩ = some (.bool false) := by rw [hW, World.cell?_of_block (Below.heap_setCell _ _ _ _ (by dsimp only; omega))]; exact c12
  have e12 : W.frozen? ⟨w.heap.size + 1 + 1 + 1, 0, none⟩ = false := by rw [hW, World.frozen?_of_block (Below.heap_setCell _ _ _ _ (by dsimp only; omega))]; exact f12
  clear HW hH hbel BX B1 H hB
  rw [hW] at hC
  go_wp2_with fail
  refine hC.mono ?_
  rintro e W2 ⟨_, rfl, S2, rn, rcap, rfl, hrn, hrb⟩
  rw [← hW] at S2 hrb
  have g2 := S2.grown
  have sz2 := g2.size
  have p10 := (kept_cell g2 (p := ⟨w.heap.size + 1, 0, none⟩) (by dsimp only; omega) (by simp; omega)).trans d10
  have r10 := (kept_frozen g2 (p := ⟨w.heap.size + 1, 0, none⟩) (by dsimp only; omega) (by simp; omega)).trans e10
  have p11 := (kept_cell g2 (p := ⟨w.heap.size + 1 + 1, 0, none⟩) (by dsimp only; omega) (by simp; omega)).trans d11
  have r11 := (kept_frozen g2 (p := ⟨w.heap.size + 1 + 1, 0, none⟩) (by dsimp only; omega) (by simp; omega)).trans e11
  have p12 := (kept_cell g2 (p := ⟨w.heap.size + 1 + 1 + 1, 0, none⟩) (by dsimp only; omega) (by simp; omega)).trans d12
  have r12 := (kept_frozen g2 (p := ⟨w.heap.size + 1 + 1 + 1, 0, none⟩) (by dsimp only; omega) (by simp; omega)).trans e12
  have B2 : Aside (Below w.heap.size w W2) := below_grownBy BW.out g2 (by omega) (by omega)
  have N2 : Aside (RdN W2 rn nums ∧ (∀ blk off, rn = some ⟨blk, off, none⟩ → 0 < nums.size → W.heap.size ≤ blk) ∧ Holds2 W2 b 0 d' ∧ b < W2.heap.size ∧ w.heap.size + 4 ≤ W.heap.size) := ⟨hrn, hrb, S2.holds, S2.lt, by omega⟩
  clear S2 hrn hrb g2 d10 e10 d11 e11 d12 e12 c10 f10 c11 f11 c12 f12 k0 k1 k2 k3 k4 hC hW BW
  go_wp2_with fail
  obtain ⟨V, hV⟩ : ∃ V, V = W2.setCell ⟨w.heap.size + 1 + 1, 0, none⟩ (.slice rn nums.size rcap) := ⟨_, rfl⟩
  rw [← hV]
  have q10 : V.cell? ⟨w.heap.size + 1, 0, none⟩ = some (.slice (some ⟨b, 0, none⟩) d.size c2) := by rw [hV, World.cell?_of_block (Below.heap_setCell _ _ _ _ (by dsimp only; omega))]; exact p10
  have s10 : V.frozen? ⟨w.heap.size + 1, 0, none⟩ = false := by rw [hV, World.frozen?_setCell]; exact r10
  have q11 : V.cell? ⟨w.heap.size + 1 + 1, 0, none⟩ = some (.slice rn nums.size rcap) := by rw [hV]; exact World.cell?_setCell_same _ _ _ p11
  have s11 : V.frozen? ⟨w.heap.size + 1 + 1, 0, none⟩ = false := by rw [hV, World.frozen?_setCell]; exact r11
  have q12 : V.cell? ⟨w.heap.size + 1 + 1 + 1, 0, none⟩ = some (.bool false) := by rw [hV, World.cell?_of_block (Below.heap_setCell _ _ _ _ (by dsimp only; omega))]; exact p12
  have s12 : V.frozen? ⟨w.heap.size + 1 + 1 + 1, 0, none⟩ = false := by rw [hV, World.frozen?_setCell]; exact r12
  have szV : V.heap.size = W2.heap.size := by rw [hV]; simp
  have BV : Aside (Below w.heap.size w V) := by show Below _ _ _; rw [hV]; exact B2.out.setCell (by dsimp only; omega) _
  have NV : Aside (RdN V rn nums ∧ (∀ blk off, rn = some ⟨blk, off, none⟩ → 0 < nums.size → w.heap.size + 4 ≤ blk) ∧ Holds2 V b 0 d' ∧ b < V.heap.size) := by
    show _ ∧ _ ∧ _ ∧ _
    obtain ⟨n1, n2, n3, n4, n5⟩ := N2.out
    refine ⟨fun h0 => ?_, fun blk off e h0 => by have := n2 blk off e h0; omega, by rw [hV]; exact Holds2_of_block (Below.heap_setCell _ _ _ _ (by dsimp only; omega)) n3, by omega⟩
    obtain ⟨blk, off, e, hl, hc⟩ := n1 h0
    have := n2 blk off e h0
    exact ⟨blk, off, e, by omega, fun i hi => by rw [hV, World.cell?_of_block (Below.heap_setCell _ _ _ _ (by dsimp only; omega))]; exact hc i hi⟩
  clear p10 r10 p11 r11 p12 r12 N2 B2 hV
  go_region
  obtain ⟨X, hX⟩ : ∃ X, X = (((V.setCell ⟨w.heap.size + 1, 0, none⟩ (.slice (some ⟨b, 0, none⟩) d.size c2)).setCell ⟨w.heap.size + 1 + 1, 0, none⟩ (.slice rn nums.size rcap)).setCell ⟨w.heap.size + 1 + 1 + 1, 0, none⟩ (.bool true)).drew := ⟨_, rfl⟩
  rw [← hX]
  have hblk : ∀ k, k ≠ w.heap.size + 1 → k ≠ w.heap.size + 1 + 1 → k ≠ w.heap.size + 1 + 1 + 1 → X.heap[k]? = V.heap[k]? := fun k h1 h2 h3 => by
    rw [hX]
    exact (Below.heap_setCell _ _ _ _ h3).trans ((Below.heap_setCell _ _ _ _ h2).trans (Below.heap_setCell _ _ _ _ h1))
  have x10 : X.cell? ⟨w.heap.size + 1, 0, none⟩ = some (.slice (some ⟨b, 0, none⟩) d.size c2) := by
    rw [hX]
    refine Eq.trans (World.cell?_of_block (Below.heap_setCell _ _ _ _ (by dsimp only; omega))) (Eq.trans (World.cell?_of_block (Below.heap_setCell _ _ _ _ (by dsimp only; omega))) (World.cell?_setCell_same _ _ _ q10))
  have x11 : X.cell? ⟨w.heap.size + 1 + 1, 0, none⟩ = some (.slice rn nums.size rcap) := by
    rw [hX]
    refine Eq.trans (World.cell?_of_block (Below.heap_setCell _ _ _ _ (by dsimp only; omega))) (World.cell?_setCell_same _ _ (.slice rn nums.size rcap) (u := .slice rn nums.size rcap) ?_)
    exact Eq.trans (World.cell?_of_block (Below.heap_setCell _ _ _ _ (by dsimp only; omega))) q11
  have x12 : X.cell? ⟨w.heap.size + 1 + 1 + 1, 0, none⟩ = some (.bool true) := by
    rw [hX]
    refine World.cell?_setCell_same _ _ _ (u := .bool false) ?_
    exact Eq.trans (World.cell?_of_block (Below.heap_setCell _ _ _ _ (by dsimp only; omega))) (Eq.trans (World.cell?_of_block (Below.heap_setCell _ _ _ _ (by dsimp only; omega))) q12)
  have szX : X.heap.size = V.heap.size := by rw [hX]; simp
  have BX : Aside (Below w.heap.size w X) := by show Below _ _ _; rw [hX]; exact (((BV.out.setCell (by dsimp only; omega) _).setCell (by dsimp only; omega) _).setCell (by dsimp only; omega) _).drew
  have NX : Aside (RdN X rn nums ∧ Holds2 X b 0 d' ∧ b < X.heap.size) := by
    show _ ∧ _ ∧ _
    obtain ⟨n1, n2, n3, n4⟩ := NV.out
    refine ⟨fun h0 => ?_, Holds2_of_block (hblk b (by omega) (by omega) (by omega)) n3, by omega⟩
    obtain ⟨blk, off, e, hl, hc⟩ := n1 h0
    have := n2 blk off e h0
    exact ⟨blk, off, e, by omega, fun i hi => (World.cell?_of_block (hblk blk (by omega) (by omega) (by omega))).trans (hc i hi)⟩
  clear q10 s10 q11 s11 q12 s12 NV BV hX hblk
  go_wp2_with fail
  refine leaves_cons (f := 39) (args := #[.pointer (some ⟨w.heap.size + 1 + 1 + 1, 0, none⟩)]) (by simp) (by simp [go_sem]) ?_
  refine (guarded_idle _ _).mono ?_
  rintro e u' w'' ⟨rfl, rfl, rfl⟩
  refine leaves_cons (f := 38) (args := #[.pointer (some ⟨w.heap.size + 1 + 1 + 1, 0, none⟩), .pointer (some ⟨w.heap.size + 1, 0, none⟩), .pointer (some ⟨w.heap.size + 1 + 1, 0, none⟩)]) (by simp [settle]) (by simp [go_sem]) ?_
  refine (inner1_idle _ _ _ _ _ x12).mono ?_
  rintro e u' w'' ⟨rfl, rfl, rfl⟩
  simp [Leaves, settle, results, Tryz.results28, go_sem, x10, x11, x12]
  obtain ⟨n1, n2, n3⟩ := NX.out
  have hd := D.out
  exact ⟨b, c2, rn, rcap, by rw [hd], by omega, n3, by rw [hd]; exact hcap, n2, n1, BX.out⟩
end Go.Proofs.YtglgmkikegbchaaGreat

/- spec.Numbers (printed by gen/numbers.py). -/
namespace Go.Proofs.YtglgmkikegbchaaGreat
open Go.RowKit Go.Sort Go.Maps

def in2k (x : Int) : Prop := 0 ≤ x ∧ x ≤ 2000
theorem lawI : Keyed Tryz.prog 3 := int_keyed Tryz.underlying3
theorem zeroI (w : World) : (zeroValue 3).run Tryz.prog w = .ok (.int .i64 0) w := by kernel_rfl

/-- A map under construction, and what was there before. -/
def MapSt (w0 w : World) (n : Nat) (D : DataW Unit) : Prop := w.ownsMap Tryz.prog 3 (plainElem Tryz.prog 3) w0.heap.size n D ∧ Below w0.heap.size w0 w

theorem mapSt_made (w0 : World) : MapSt w0 (w0.alloc (.map #[] 0)) 0 (.map []) := ⟨World.ownsMap_made _ _ _ _, below_alloc _ _⟩

theorem wpList_insert_run {P : Program} {w w' : World} {ops : Array Oper} {rest : List Oper} {o : Oper} {a : Act} {Q : Exit → Act → World → Prop}
    (hg : o.guard = none) (t : TypeId) (m x v : Operand) (mv xv vv : Value) (hop : o.op = Op.insert t m x v) (hm : a.eval m = mv) (hx : a.eval x = xv) (hv : a.eval v = vv)
    (hrun : (Instr.mapUpdate t mv xv vv).run P w = .ok () w') (h : wpList P ops Q rest (a.put o.dst undef) w') : wpList P ops Q (o :: rest) a w := by
  refine wpList_plain hg fun K' hK' => ?_
  unfold Oper.wp
  simp [execOp, hop, hm, hx, hv, hrun, Result.andThen]
  exact hK' _ _ h

theorem wpList_insert_st {w0 w : World} {n : Nat} {D : DataW Unit} {ops : Array Oper} {rest : List Oper} {o : Oper} {a : Act} {Q : Exit → Act → World → Prop} (hst : Aside (MapSt w0 w n D))
    (hg : o.guard = none) (m : Operand) (x v : Int) (hop : o.op = Op.insert 52 m (.const (.int .i64 x)) (.const (.int .i64 v))) (hm : a.eval m = .map (some w0.heap.size)) (hx : (Lit.int .i64 x).wf = true) (hv : (Lit.int .i64 v).wf = true) (hn : n < maxLen)
    (hK : ∀ w', Aside (MapSt w0 w' (n + 1) (D.put (.int .i64 x) (.lit (.int .i64 v)))) → wpList Tryz.prog ops Q rest (a.put o.dst undef) w') :
    wpList Tryz.prog ops Q (o :: rest) a w := by
  obtain ⟨w', hrun, r1, r2⟩ := hst.out.1.update lawI Tryz.underlying52 hn (keyOf_int_mk Tryz.underlying3 hx) (plainElem_int Tryz.underlying3 hv)
  exact wpList_insert_run hg _ m _ _ _ _ _ hop hm rfl rfl hrun (hK w' ⟨r1, hst.out.2.grown r2 hst.out.2.size (fun j hj => by cases hj; exact Nat.le_refl _)⟩)

theorem results_tmp3 {fn : Func} {t u v : Tmp} (h : fn.results = #[.tmp t, .tmp u, .tmp v]) (tmps : Array Value) (P : Program) (w : World) :
    (results fn tmps).run P w = .ok (.tuple #[tmps.getD t undef, tmps.getD u undef, tmps.getD v undef]) w := by
  simp [results, h]

/-- How many numbers each function has. -/
def wantMap : DataW Unit := (DataW.put (DataW.put (DataW.put (DataW.put (DataW.put (DataW.put (DataW.put (DataW.put (DataW.put (DataW.put (DataW.put (DataW.put (DataW.put (DataW.put (DataW.put (DataW.put (DataW.put (.map []) (.int .i64 0) (.lit (.int .i64 2))) (.int .i64 1) (.lit (.int .i64 3))) (.int .i64 2) (.lit (.int .i64 2))) (.int .i64 3) (.lit (.int .i64 3))) (.int .i64 4) (.lit (.int .i64 3))) (.int .i64 5) (.lit (.int .i64 3))) (.int .i64 6) (.lit (.int .i64 2))) (.int .i64 7) (.lit (.int .i64 2))) (.int .i64 8) (.lit (.int .i64 2))) (.int .i64 9) (.lit (.int .i64 2))) (.int .i64 10) (.lit (.int .i64 3))) (.int .i64 11) (.lit (.int .i64 1))) (.int .i64 12) (.lit (.int .i64 2))) (.int .i64 13) (.lit (.int .i64 3))) (.int .i64 14) (.lit (.int .i64 1))) (.int .i64 15) (.lit (.int .i64 3))) (.int .i64 16) (.lit (.int .i64 3)))
theorem want_c {f v c : Int} (h : wantMap.atKey (.int .i64 f) (.lit (.int .i64 0)) = .lit (.int .i64 c)) (h2 : wantMap.atKey (.int .i64 f) (.lit (.int .i64 0)) = .lit (.int .i64 v)) : c = v := by
  rw [h] at h2
  injection h2 with h2
  injection h2

theorem within_calls (x y m : Int) (w : World) : Calls Tryz.prog 37 #[.int .i64 x, .int .i64 y, .int .i64 m] w fun e w' => e = .returned (.bool (decide (0 ≤ x) && decide (x ≤ y) && decide (y ≤ m))) ∧ w' = w := by
  by_cases h1 : 0 ≤ x
  · by_cases h2 : x ≤ y
    · rw [show decide (0 ≤ x) = true from decide_eq_true h1, show decide (x ≤ y) = true from decide_eq_true h2]
      go_enter Tryz.func37, Tryz.ntmps37
      go_wp2
      go_ret
      exact ⟨rfl, rfl⟩
    · rw [show decide (0 ≤ x) = true from decide_eq_true h1, show decide (x ≤ y) = false from decide_eq_false h2]
      go_enter Tryz.func37, Tryz.ntmps37
      go_wp2
      go_ret
      exact ⟨rfl, rfl⟩
  · rw [show decide (0 ≤ x) = false from decide_eq_false h1]
    go_enter Tryz.func37, Tryz.ntmps37
    go_wp2
    go_ret
    exact ⟨rfl, rfl⟩

def wantF (f : Int) : Int := match wantMap.atKey (.int .i64 f) (.lit (.int .i64 0)) with | .lit (.int _ c) => c | _ => 0
theorem wantF_c {f c : Int} (h : wantMap.atKey (.int .i64 f) (.lit (.int .i64 0)) = .lit (.int .i64 c)) : wantF f = c := by
  unfold wantF
  rw [h]

set_option maxHeartbeats 8000000 in
set_option maxRecDepth 1000000 in
theorem numbers_bad (f m : Int) (a : Option Addr) (cap n : Nat) (ns : Array Int) (w : World) (h : RdN w a ns) (hn : ns.size = n) (hf : (Lit.int .i64 f).wf = true) (hsz : n < 4611686018427387904)
    (hbad : f < 0 ∨ 17 ≤ f ∨ (n : Int) ≠ wantF f ∨ ∃ i, i < n ∧ ¬ in2k ns[i]!) :
    Calls Tryz.prog 26 #[.int .i64 f, .int .i64 m, .slice a n cap] w fun e w' => e = .returned (.tuple #[.int .i64 0, .int .i64 0, .bool false]) ∧ Below w.heap.size w w' := by
  have H : Aside (RdN w a ns ∧ ns.size = n) := ⟨h, hn⟩
  have HB : Aside (f < 0 ∨ 17 ≤ f ∨ (n : Int) ≠ wantF f ∨ ∃ i, i < n ∧ ¬ in2k ns[i]!) := hbad
  clear h hn hbad
  have hmm := @run_makeMap Tryz.prog
  have hst : Aside (MapSt w (w.alloc (.map #[] 0)) 0 (.map [])) := mapSt_made w
  by_cases g1 : f < 0
  · go_enter Tryz.func26, Tryz.ntmps26
    go_wp2_with (first
      | (refine wpList_insert_st hst rfl _ _ _ rfl rfl (by decide) (by decide) (by decide) ?_; clear hst; intro w1 hst)
      | (at_lookup; refine wpList_lookup_own_int _ rfl _ _ 52 rfl 3 3 .i64 lawI Tryz.underlying52 Tryz.underlying3 (zeroI _) w.heap.size _ _ rfl hst.out.1 _ _ rfl (keyOf_int_mk Tryz.underlying3 hf) ?_; intro c hat _; clear hat)
      | fail)
    refine bodyPost_ret (results_tmp3 rfl _ _ _) rfl ?_
    exact ⟨rfl, hst.out.2⟩
  · by_cases g2 : 17 ≤ f
    · go_enter Tryz.func26, Tryz.ntmps26
      go_wp2_with (first
        | (refine wpList_insert_st hst rfl _ _ _ rfl rfl (by decide) (by decide) (by decide) ?_; clear hst; intro w1 hst)
        | (at_lookup; refine wpList_lookup_own_int _ rfl _ _ 52 rfl 3 3 .i64 lawI Tryz.underlying52 Tryz.underlying3 (zeroI _) w.heap.size _ _ rfl hst.out.1 _ _ rfl (keyOf_int_mk Tryz.underlying3 hf) ?_; intro c hat _; clear hat)
        | fail)
      refine bodyPost_ret (results_tmp3 rfl _ _ _) rfl ?_
      exact ⟨rfl, hst.out.2⟩
    · by_cases g3 : (n : Int) = wantF f
      · obtain ⟨C, hC⟩ : ∃ C, C = wantF f := ⟨_, rfl⟩
        rw [← hC] at g3
        have HC : Aside (wantF f = C) := hC.symm
        clear hC
        go_enter Tryz.func26, Tryz.ntmps26
        go_wp2_with (first
          | (refine wpList_insert_st hst rfl _ _ _ rfl rfl (by decide) (by decide) (by decide) ?_; clear hst; intro w1 hst)
          | (at_lookup; refine wpList_lookup_own_int _ rfl _ _ 52 rfl 3 3 .i64 lawI Tryz.underlying52 Tryz.underlying3 (zeroI _) w.heap.size _ _ rfl hst.out.1 _ _ rfl (keyOf_int_mk Tryz.underlying3 hf) ?_; intro c hat _; obtain rfl : C = c := HC.out.symm.trans (wantF_c hat); clear hat)
          | fail)
        have B : Aside (Below w.heap.size w w1) := hst.out.2
        clear hst
        go_loopg [6, 7, 8, 11, 32] n (fun g v6 v7 v8 _ vi wr => ∃ i : Nat, vi = .int .i64 i ∧ v6 = .int .i64 0 ∧ v7 = .int .i64 0 ∧ v8 = .bool false ∧ i ≤ n ∧ n - i ≤ g ∧ Aside (∀ k, k < i → in2k ns[k]!) ∧ wr = w1)
        case atStart => exact ⟨0, rfl, rfl, rfl, rfl, Nat.zero_le _, by omega, fun k hk => absurd hk (by omega), rfl⟩
        case round =>
          obtain ⟨i, rfl, rfl, rfl, rfl, hin, hg, HE, rfl⟩ := hrel
          by_cases hlt : i < n
          · have hltz : (i : Int) < (n : Int) := by omega
            obtain ⟨⟨hr, hns⟩⟩ : ∃ _ : RdN w a ns ∧ ns.size = n, True := ⟨H.out, trivial⟩
            obtain ⟨blk, off, rfl, hl, hc⟩ := hr (by omega)
            have q := (B.out.cell (p := ⟨blk, off + i, none⟩) hl).trans (hc i (by omega))
            obtain ⟨x, hx⟩ : ∃ x, x = ns[i]! := ⟨_, rfl⟩
            rw [← hx] at q
            have X : Aside (ns[i]! = x) := hx.symm
            clear hc hl hr hns hx
            by_cases p1 : x < 0
            · go_wp2_with fail
              (try simp only [Exit.inBlock, Exit.then]); refine bodyPost_ret (results_tmp3 rfl _ _ _) rfl ?_
              exact ⟨rfl, B.out⟩
            · by_cases p2 : 2000 < x
              · go_wp2_with fail
                (try simp only [Exit.inBlock, Exit.then]); refine bodyPost_ret (results_tmp3 rfl _ _ _) rfl ?_
                exact ⟨rfl, B.out⟩
              · go_wp2_with fail
                go_roundg (n - (i + 1))
                case measure => omega
                case rel => exact ⟨i + 1, by go_num, rfl, rfl, rfl, by omega, by omega, fun k hk => by
                  rcases Nat.lt_or_ge k i with h | h
                  · exact HE k h
                  · rw [show k = i by omega, X.out]; exact ⟨by omega, by omega⟩, rfl⟩
          · exfalso
            rcases HB.out with h | h | h | ⟨j, hj, hb⟩
            · omega
            · omega
            · exact h (g3.trans HC.out.symm)
            · exact hb (HE.out j (by omega))
      · obtain ⟨C, hC⟩ : ∃ C, C = wantF f := ⟨_, rfl⟩
        rw [← hC] at g3
        have HC : Aside (wantF f = C) := hC.symm
        clear hC
        go_enter Tryz.func26, Tryz.ntmps26
        go_wp2_with (first
          | (refine wpList_insert_st hst rfl _ _ _ rfl rfl (by decide) (by decide) (by decide) ?_; clear hst; intro w1 hst)
          | (at_lookup; refine wpList_lookup_own_int _ rfl _ _ 52 rfl 3 3 .i64 lawI Tryz.underlying52 Tryz.underlying3 (zeroI _) w.heap.size _ _ rfl hst.out.1 _ _ rfl (keyOf_int_mk Tryz.underlying3 hf) ?_; intro c hat _; obtain rfl : C = c := HC.out.symm.trans (wantF_c hat); clear hat)
          | fail)
        refine bodyPost_ret (results_tmp3 rfl _ _ _) rfl ?_
        exact ⟨rfl, hst.out.2⟩
end Go.Proofs.YtglgmkikegbchaaGreat

/- laws.does. -/
namespace Go.Proofs.YtglgmkikegbchaaGreat
open Go.RowKit Go.Sort

/-- An order's box, its cells laid for the walk. -/
def BoxK (w : World) (b : Nat) (k s m0 m1 m2 : Int) : Prop := b < w.heap.size ∧ w.cell? ⟨b, 0, none⟩ = some (.int .i64 k) ∧ w.cell? ⟨b, 1, none⟩ = some (.int .i64 s) ∧ w.cell? ⟨b, 2, none⟩ = some (.int .u64 m0) ∧ w.cell? ⟨b, 3, none⟩ = some (.int .u64 m1) ∧ w.cell? ⟨b, 4, none⟩ = some (.int .u64 m2)
theorem BoxK.keep {w w' : World} {b : Nat} {k s m0 m1 m2 : Int} (h : BoxK w b k s m0 m1 m2) (hb : Below w.heap.size w w') : BoxK w' b k s m0 m1 m2 := by
  obtain ⟨h0, k0, k1, k2, k3, k4⟩ := h
  exact ⟨Nat.lt_of_lt_of_le h0 hb.size, (hb.cell (by exact h0)).trans k0, (hb.cell (by exact h0)).trans k1, (hb.cell (by exact h0)).trans k2, (hb.cell (by exact h0)).trans k3, (hb.cell (by exact h0)).trans k4⟩
theorem boxK_new (w : World) (k s m0 m1 m2 : Int) (t : TypeId) : BoxK (w.alloc (.cells #[.int .i64 k, .int .i64 s, .int .u64 m0, .int .u64 m1, .int .u64 m2] t)) w.heap.size k s m0 m1 m2 := ⟨by simp, by simp [go_sem], by simp [go_sem], by simp [go_sem], by simp [go_sem], by simp [go_sem]⟩

set_option maxHeartbeats 4000000 in
set_option maxRecDepth 1000000 in
theorem does_calls (t f : Int) (a na : Option Addr) (cap n ncap : Nat) (d d' : Array It) (o : Ordr) (ns nums : Array Int) (OK RDY : Bool) (w : World) (h : Rd2 w a d) (hN : RdN w na ns)
    (HN : ∀ W, RdN W na ns → Calls Tryz.prog 26 #[.int .i64 f, .int .i64 d.size, .slice na n ncap] W fun e w' => ∃ x y, e = .returned (.tuple #[x, y, .bool OK]) ∧ Below W.heap.size W w')
    (HR : OK = true → fitsB d.size o = true → textB t d o = true → ∀ W, Rd2 W a d → RdN W na ns → Calls Tryz.prog 34 #[.int .i64 f, .slice a d.size cap, vOrd o, .slice na n ncap] W fun e w' => e = .returned (.bool RDY) ∧ Below W.heap.size W w')
    (HI : OK = true → RDY = true → fitsB d.size o = true → o.kind ≠ 3 → textB t d o = true → ∀ W, Rd2 W a d → RdN W na ns → Calls Tryz.prog 28 #[.int .i64 t, .int .i64 f, .slice a d.size cap, vOrd o, .slice na n ncap] W (InnerTo W d' nums))
    (HD : OK = true → RDY = true → fitsB d.size o = true → o.kind ≠ 3 → textB t d o = true → ∀ W b bcap ra rcap, Rd2 W a d → RdN W na ns → b < W.heap.size → d'.size ≤ bcap → Holds2 W b 0 d' → RdN W ra nums → Calls Tryz.prog 35 #[.int .i64 f, .slice a d.size cap, vOrd o, .slice na n ncap, .slice (some ⟨b, 0, none⟩) d'.size bcap, .slice ra nums.size rcap] W fun e w' => e = .returned (.bool true) ∧ Below W.heap.size W w') :
    Calls Tryz.prog 22 #[.int .i64 t, .int .i64 f, .slice a d.size cap, vOrd o, .slice na n ncap] w fun e w' => e = .returned (.bool true) ∧ Below w.heap.size w w' := by
  obtain ⟨k, s, m0, m1, m2⟩ := o
  obtain ⟨F, hF⟩ : ∃ F, F = fitsB d.size ⟨k, s, m0, m1, m2⟩ := ⟨_, rfl⟩
  obtain ⟨I, hI⟩ : ∃ I, I = (k != 3) := ⟨_, rfl⟩
  obtain ⟨T, hT⟩ : ∃ T, T = textB t d ⟨k, s, m0, m1, m2⟩ := ⟨_, rfl⟩
  have fits := fun W => fits_calls a cap d.size ⟨k, s, m0, m1, m2⟩ W
  have isC := fun W => is_calls ⟨k, s, m0, m1, m2⟩ W
  have text := fun W h hz => text_calls t a cap d.size d ⟨k, s, m0, m1, m2⟩ W h rfl hz
  dsimp only at isC
  rw [← hF] at fits HR HI HD
  rw [← hI] at isC
  rw [← hT] at text HR HI HD
  have hz : F = true → d.size ≤ 2000 := fun e => by
    rw [e] at hF
    unfold fitsB at hF
    simp only [Bool.true_eq, Bool.and_eq_true, decide_eq_true_eq] at hF
    exact hF.1.1.1.1
  have h3 : I = true → k ≠ 3 := fun e => by
    rw [e] at hI
    simpa using hI.symm
  have B0 : Aside (Below w.heap.size w (w.alloc (.cells #[.int .i64 k, .int .i64 s, .int .u64 m0, .int .u64 m1, .int .u64 m2] 26))) := below_alloc _ _
  have K0 : Aside (BoxK (w.alloc (.cells #[.int .i64 k, .int .i64 s, .int .u64 m0, .int .u64 m1, .int .u64 m2] 26)) w.heap.size k s m0 m1 m2) := boxK_new _ _ _ _ _ _ _
  have R0 : Aside (Rd2 w a d ∧ RdN w na ns) := ⟨h, hN⟩
  have QR : Aside _ := HR
  have QI : Aside _ := HI
  have QD : Aside _ := HD
  have Qz : Aside _ := hz
  have Q3 : Aside _ := h3
  clear h hN hF hI hT HR HI HD hz h3
  go_enter Tryz.func22, Tryz.ntmps22
  go_wp2_with fail
  refine (fits _).mono ?_
  rintro e w1 ⟨rfl, hb⟩
  have B1 : Aside (Below w.heap.size w w1) := Below.next B0.out hb
  have K1 : Aside (BoxK w1 w.heap.size k s m0 m1 m2) := K0.out.keep hb
  clear hb K0 B0 fits
  cases F with
  | false =>
    go_wp2_with fail
    refine (works_calls _).mono ?_
    rintro e w2 ⟨rfl, hb⟩
    go_wp2_with fail
    go_ret
    exact ⟨rfl, Below.next B1.out hb⟩
  | true =>
    obtain ⟨_, k0, k1, k2, k3, k4⟩ := K1.out
    go_wp2_with fail
    refine (isC _).mono ?_
    rintro e w2 ⟨rfl, hb⟩
    have B2 : Aside (Below w.heap.size w w2) := Below.next B1.out hb
    have K2 : Aside (BoxK w2 w.heap.size k s m0 m1 m2) := K1.out.keep hb
    clear hb K1 B1 isC k0 k1 k2 k3 k4
    cases I with
    | false =>
      go_wp2_with fail
      refine (works_calls _).mono ?_
      rintro e w2 ⟨rfl, hb⟩
      go_wp2_with fail
      go_ret
      exact ⟨rfl, Below.next B2.out hb⟩
    | true =>
      obtain ⟨_, k0, k1, k2, k3, k4⟩ := K2.out
      have hx := text w2 (R0.out.1.keep B2.out) (Qz.out (by trivial))
      go_wp2_with fail
      refine hx.mono ?_
      rintro e w3 ⟨rfl, hb⟩
      have B3 : Aside (Below w.heap.size w w3) := Below.next B2.out hb
      have K3 : Aside (BoxK w3 w.heap.size k s m0 m1 m2) := K2.out.keep hb
      clear hb K2 B2 text hx k0 k1 k2 k3 k4
      cases T with
      | false =>
        go_wp2_with fail
        refine (works_calls _).mono ?_
        rintro e w2 ⟨rfl, hb⟩
        go_wp2_with fail
        go_ret
        exact ⟨rfl, Below.next B3.out hb⟩
      | true =>
        have hx := HN w3 (R0.out.2.keep B3.out)
        go_wp2_with fail
        refine hx.mono ?_
        rintro e w4 ⟨x, y, rfl, hb⟩
        have B4 : Aside (Below w.heap.size w w4) := Below.next B3.out hb
        have K4 : Aside (BoxK w4 w.heap.size k s m0 m1 m2) := K3.out.keep hb
        clear hb K3 B3 HN hx
        cases OK with
        | false =>
          go_wp2_with fail
          refine (works_calls _).mono ?_
          rintro e w2 ⟨rfl, hb⟩
          go_wp2_with fail
          go_ret
          exact ⟨rfl, Below.next B4.out hb⟩
        | true =>
          obtain ⟨_, k0, k1, k2, k3, k4⟩ := K4.out
          have hx := QR.out (by trivial) (by trivial) (by trivial) w4 (R0.out.1.keep B4.out) (R0.out.2.keep B4.out)
          go_wp2_with fail
          refine hx.mono ?_
          rintro e w5 ⟨rfl, hb⟩
          have B5 : Aside (Below w.heap.size w w5) := Below.next B4.out hb
          have K5 : Aside (BoxK w5 w.heap.size k s m0 m1 m2) := K4.out.keep hb
          clear hb K4 B4 QR hx k0 k1 k2 k3 k4
          cases RDY with
          | false =>
            go_wp2_with fail
            refine (works_calls _).mono ?_
            rintro e w2 ⟨rfl, hb⟩
            go_wp2_with fail
            go_ret
            exact ⟨rfl, Below.next B5.out hb⟩
          | true =>
            obtain ⟨_, k0, k1, k2, k3, k4⟩ := K5.out
            have hx := QI.out (by trivial) (by trivial) (by trivial) (Q3.out (by trivial)) (by trivial) w5 (R0.out.1.keep B5.out) (R0.out.2.keep B5.out)
            go_wp2_with fail
            refine hx.mono ?_
            rintro e w6 ⟨b, bcap, ra, rcap, rfl, hb1, hb2, hb3, hb4, hb5, hb⟩
            have B6 : Aside (Below w.heap.size w w6) := Below.next B5.out hb
            obtain ⟨_, k0, k1, k2, k3, k4⟩ := K5.out.keep hb
            have hx := QD.out (by trivial) (by trivial) (by trivial) (Q3.out (by trivial)) (by trivial) w6 b bcap ra rcap (R0.out.1.keep B6.out) (R0.out.2.keep B6.out) hb2 hb3 hb4 hb5
            clear hb K5 B5 QI QD hb1 hb2 hb3 hb4 hb5
            go_wp2_with fail
            refine hx.mono ?_
            rintro e w7 ⟨rfl, hb⟩
            have B7 : Aside (Below w.heap.size w w7) := Below.next B6.out hb
            clear hb hx k0 k1 k2 k3 k4 B6
            go_wp2_with fail
            refine (works_calls _).mono ?_
            rintro e w8 ⟨rfl, hb⟩
            go_wp2_with fail
            go_ret
            exact ⟨rfl, Below.next B7.out hb⟩
end Go.Proofs.YtglgmkikegbchaaGreat

/- impl.Inner, by the keys alone. -/
namespace Go.Proofs.YtglgmkikegbchaaGreat
open Go.RowKit Go.Sort

theorem holds2_setKey {w : World} {b i : Nat} {d : Array It} {x : Int} (h : Holds2 w b 0 d) (hi : i < d.size) :
    Holds2 (w.setCell ⟨b, 0 + i * 2, none⟩ (.int .i64 x)) b 0 (d.set! i (x, d[i]!.2)) := fun j hj => by
  have hj' : j < d.size := by simpa using hj
  obtain ⟨h1, h2, h3, h4⟩ := h j hj'
  refine ⟨?_, ?_, by rw [World.frozen?_setCell]; exact h3, by rw [World.frozen?_setCell]; exact h4⟩
  · by_cases e : j = i
    · subst e
      rw [World.cell?_setCell_same _ _ _ h1, Array.set!_eq_setIfInBounds, getElem!_pos _ _ (by simpa using hj'), Array.getElem_setIfInBounds_self]
    · rw [World.cell?_setCell_other _ _ _ _ (by intro he; injection he with _ he; omega), h1, Array.set!_eq_setIfInBounds, getElem!_pos (d.setIfInBounds _ _) _ (by simpa using hj'), Array.getElem_setIfInBounds_ne _ (by omega), getElem!_pos d j hj']
  · rw [World.cell?_setCell_other _ _ _ _ (by intro he; injection he with _ he; omega), h2]
    by_cases e : j = i
    · subst e
      rw [Array.set!_eq_setIfInBounds, getElem!_pos (d.setIfInBounds _ _) _ (by simpa using hj'), Array.getElem_setIfInBounds_self]
    · rw [Array.set!_eq_setIfInBounds, getElem!_pos (d.setIfInBounds _ _) _ (by simpa using hj'), Array.getElem_setIfInBounds_ne _ (by omega), getElem!_pos d j hj']

theorem own_grown' {B : Nat} {w0 w w' : World} {base : Nat} {e : TypeId} {size n : Nat} {v : Value} {xs : List Value} (h : w.ownsRow base e size v n xs) (hb : Below B w0 w) (hB : B ≤ base) (hBw : B ≤ w.heap.size) (hg : w.grownBy w' v.ownBlock) : Below B w0 w' := by
  refine hb.grown hg hBw (fun k ek => ?_)
  obtain ⟨_, ⟨rfl, _⟩ | ⟨g, cap, cur, rfl, e2, _⟩⟩ := h
  · cases ek
  · cases ek; exact Nat.le_trans hB e2

/-- Keys without tags. -/
def bare (ks : Array Int) : Array It := ks.map fun k => (k, 0)
theorem bare_size (ks : Array Int) : (bare ks).size = ks.size := by simp [bare]
theorem bare_get (ks : Array Int) (i : Nat) (h : i < ks.size) : (bare ks)[i]! = (ks[i]!, 0) := by
  rw [getElem!_pos _ _ (by rw [bare_size]; exact h), getElem!_pos ks i h]; simp [bare]

theorem own_row1 {w : World} {base n : Nat} {v : Value} {l : List Int} (h : w.ownsRow base 2 1 v n (l.map (Value.int .i64))) :
    v = .slice none 0 0 ∨ ∃ g cap, v = .slice (some ⟨g, 0, none⟩) n cap ∧ base ≤ g ∧ g < w.heap.size ∧ n ≤ cap ∧ Holds e64 w g 0 l.toArray := by
  obtain ⟨hl, ⟨rfl, h0⟩ | ⟨g, cap, cur, rfl, hb, hg, hnc, _, hcs, ht⟩⟩ := h
  · exact Or.inl rfl
  · have hgl : g < w.heap.size := by
      rcases Nat.lt_or_ge g w.heap.size with h | h
      · exact h
      · rw [Array.getElem?_eq_none h] at hg; cases hg
    rw [Nat.mul_one] at ht hl
    have hll : l.length = n := by simpa using hl
    refine Or.inr ⟨g, cap, rfl, hb, hgl, hnc, fun i hi => ?_⟩
    have hi' : i < l.length := by simpa using hi
    refine ⟨?_, by simp [World.frozen?, hg]⟩
    have hu : (l.map (Value.int .i64))[i]? = some (e64 l.toArray[i]!) := by
      rw [List.getElem?_map, List.getElem?_eq_getElem hi', getElem!_pos l.toArray i hi]; rfl
    rw [← ht, List.getElem?_take_of_lt (by omega)] at hu
    simp only [World.cell?, hg, Nat.zero_add]
    simpa using hu

set_option maxHeartbeats 4000000 in
set_option maxRecDepth 1000000 in
theorem inner_o (f : Int) (a : Option Addr) (cap : Nat) (ks ks' : Array Int) (o : Ordr) (hk0 : o.kind = 0) (na : Option Addr) (n ncap : Nat) (ns nums : Array Int) (w : World) (h : Rd2 w a (bare ks)) (hN : RdN w na ns) (hsz : ks.size ≤ 2000) (hd : ks'.size = ks.size)
    (hm : ∀ W, Calls Tryz.prog 40 #[.int .i64 f] W fun e w' => e = .returned (.int .i64 n) ∧ w' = W)
    (HB : ∀ (W : World) (b cap' : Nat), b < W.heap.size → Holds e64 W b 0 ks → RdN W na ns → Calls Tryz.prog 45 #[.int .i64 f, .slice (some ⟨b, 0, none⟩) ks.size cap', .slice na n ncap] W fun e W' => ∃ nv, e = .returned nv ∧ St1 e64 W b 0 ks' W' ∧ NumsAt W W' nv nums) :
    Calls Tryz.prog 28 #[.int .i64 2, .int .i64 f, .slice a ks.size cap, vOrd o, .slice na n ncap] w (InnerTo w (bare ks') nums) := by
  have H : Aside (Rd2 w a (bare ks) ∧ RdN w na ns) := ⟨h, hN⟩
  have hB : Aside (∀ (W : World) (b cap' : Nat), b < W.heap.size → Holds e64 W b 0 ks → RdN W na ns → Calls Tryz.prog 45 #[.int .i64 f, .slice (some ⟨b, 0, none⟩) ks.size cap', .slice na n ncap] W fun e W' => ∃ nv, e = .returned nv ∧ St1 e64 W b 0 ks' W' ∧ NumsAt W W' nv nums) := HB
  have D : Aside (ks'.size = ks.size) := hd
  obtain ⟨N, hNs⟩ : ∃ N, N = ks.size := ⟨_, rfl⟩
  have E : Aside (ks.size = N) := hNs.symm
  rw [← hNs]
  clear h hN HB hd
  obtain ⟨k, s, m0, m1, m2⟩ := o
  dsimp only at hk0
  subst hk0
  obtain ⟨i0, hi, hz0, hz1, hz2⟩ := info_parts (show (Tryz.prog.info? 2).map (fun i => (i.zero, i.size, i.bytes)) = some (some (.int .i64 0), 1, 8) by kernel_rfl)
  have hI : Aside (Tryz.prog.info? 2 = some i0 ∧ i0.zero = some (.int .i64 0) ∧ i0.size = 1 ∧ i0.bytes = 8) := ⟨hi, hz0, hz1, hz2⟩
  have hN2 : N ≤ 2000 := by omega
  clear hi hz0 hz1 hz2 hNs hsz
  go_enter_defers Tryz.func28, Tryz.ntmps28
  go_wp2_with fail
  refine (hm _).mono ?_
  rintro e W0 ⟨rfl, rfl⟩
  go_wp2_with fail
  have BX : Below w.heap.size w ((((w.alloc (.cells #[.int .i64 0, .int .i64 s, .int .u64 m0, .int .u64 m1, .int .u64 m2] 26)).alloc (.cells #[.slice none 0 0] 22)).alloc (.cells #[.slice none 0 0] 29)).alloc (.cells #[.bool false] 4)) :=
    Below.next (Below.next (Below.next (below_alloc _ _) (below_alloc _ _)) (below_alloc _ _)) (below_alloc _ _)
  have hcc := copied_calls a cap (bare ks) _ (H.out.1.keep BX) (by rw [bare_size, E.out]; exact hN2)
  rw [bare_size, E.out] at hcc
  refine hcc.mono ?_
  clear hcc
  rintro e w1 ⟨v, rfl, b, c2, rfl, hb1, hb2, hcap, hH, hbel⟩
  rw [bare_size, E.out] at hcap
  rw [bare_size, E.out]
  simp only [World.size_alloc] at hb1 hbel
  have hsz1 : w.heap.size + 4 ≤ w1.heap.size := by have := hbel.size; simpa using this
  obtain ⟨hb0, hb10, hb11, hb12⟩ := boxes4 hbel
  have k0 := cell_at (i := 0) hb0 rfl
  have k1 := cell_at (i := 1) hb0 rfl
  have k2 := cell_at (i := 2) hb0 rfl
  have k3 := cell_at (i := 3) hb0 rfl
  have k4 := cell_at (i := 4) hb0 rfl
  have c10 := cell_at (i := 0) hb10 rfl
  have f10 := frozen_at (i := 0) hb10
  have c11 := cell_at (i := 0) hb11 rfl
  have f11 := frozen_at (i := 0) hb11
  have c12 := cell_at (i := 0) hb12 rfl
  have f12 := frozen_at (i := 0) hb12
  clear hb0 hb10 hb11 hb12
  have B1 : Aside (Below w.heap.size w w1) := BX.trans (hbel.mono (by omega))
  have HH : Aside (Holds2 w1 b 0 (bare ks) ∧ RdN w na ns) := ⟨hH, H.out.2⟩
  clear hH hbel BX H
  go_upto_region 16 with fail
  obtain ⟨W, hW⟩ : ∃ W, W = (w1.setCell ⟨w.heap.size + 1, 0, none⟩ (.slice (some ⟨b, 0, none⟩) N c2)).alloc (.cells #[] 2) := ⟨_, rfl⟩
  rw [← hW]
  have ho : ∀ k, k < w1.heap.size → k ≠ w.heap.size + 1 → W.heap[k]? = w1.heap[k]? := fun k h1 h2 => by
    rw [hW, heap_alloc_old _ _ (by simpa using h1)]
    exact Below.heap_setCell _ _ _ _ h2
  have szW : W.heap.size = w1.heap.size + 1 := by rw [hW]; simp
  have BW : Aside (Below w.heap.size w W) := by show Below _ _ _; rw [hW]; exact (B1.out.setCell (by dsimp only; omega) _).alloc (by simp; omega) _
  have FW : Aside (W.cell? ⟨w.heap.size + 1, 0, none⟩ = some (.slice (some ⟨b, 0, none⟩) N c2) ∧ W.frozen? ⟨w.heap.size + 1, 0, none⟩ = false ∧ W.cell? ⟨w.heap.size + 1 + 1, 0, none⟩ = some (.slice none 0 0) ∧ W.frozen? ⟨w.heap.size + 1 + 1, 0, none⟩ = false ∧ W.cell? ⟨w.heap.size + 1 + 1 + 1, 0, none⟩ = some (.bool false) ∧ W.frozen? ⟨w.heap.size + 1 + 1 + 1, 0, none⟩ = false) := by
    have hx : ∀ p : Addr, p.block < w1.heap.size → W.cell? p = (w1.setCell ⟨w.heap.size + 1, 0, none⟩ (.slice (some ⟨b, 0, none⟩) N c2)).cell? p := fun p hp => by rw [hW]; exact World.cell?_of_block (heap_alloc_old _ _ (by simpa using hp))
    have hy : ∀ p : Addr, p.block < w1.heap.size → W.frozen? p = w1.frozen? p := fun p hp => by rw [hW]; exact (World.frozen?_of_block (heap_alloc_old _ _ (by simpa using hp))).trans (World.frozen?_setCell _ _ _ _)
    exact ⟨(hx _ (by dsimp only; omega)).trans (World.cell?_setCell_same _ _ _ c10), (hy _ (by dsimp only; omega)).trans f10, (World.cell?_of_block (ho _ (by dsimp only; omega) (by dsimp only; omega))).trans c11, (hy _ (by dsimp only; omega)).trans f11, (World.cell?_of_block (ho _ (by dsimp only; omega) (by dsimp only; omega))).trans c12, (hy _ (by dsimp only; omega)).trans f12⟩
  have HW : Aside (Holds2 W b 0 (bare ks) ∧ RdN W na ns) := ⟨Holds2_of_block (ho b hb2 (by omega)) HH.out.1, HH.out.2.keep BW.out⟩
  have OW : Aside (W.ownsRow w1.heap.size 2 1 (.slice (some ⟨w1.heap.size, 0, none⟩) 0 0) 0 ((ks.toList.take 0).map (Value.int .i64))) := ⟨rfl, Or.inr ⟨_, 0, #[], rfl, Nat.le_refl _, by rw [hW]; have := heap_alloc_new (w1.setCell ⟨w.heap.size + 1, 0, none⟩ (.slice (some ⟨b, 0, none⟩) N c2)) (.cells #[] 2); simpa using this, Nat.le_refl _, by decide, rfl, rfl⟩⟩
  have HN : Aside (RdN w na ns) := HH.out.2
  have q10 := FW.out.1
  clear k0 k1 k2 k3 k4 c10 f10 c11 f11 c12 f12 B1 HH ho hW
  go_wp2_with fail
  go_loopg [13, 51] N (fun g vk vi wr => ∃ i : Nat, vi = .int .i64 i ∧ i ≤ N ∧ N - i ≤ g ∧ Aside (wr.ownsRow w1.heap.size 2 1 vk i ((ks.toList.take i).map (Value.int .i64)) ∧ Below w1.heap.size W wr ∧ ¬ vk = .slice none 0 0))
  case atStart => exact ⟨0, rfl, Nat.zero_le _, by omega, OW, Below.refl _ _, by simp⟩
  case round =>
    obtain ⟨i, rfl, hin, hg, HO⟩ := hrel
    by_cases hlt : i < N
    · have hltz : (i : Int) < (N : Int) := by omega
      obtain ⟨x, hx⟩ : ∃ x, x = ks[i]! := ⟨_, rfl⟩
      have hh := HW.out.1 i (by rw [bare_size, E.out]; exact hlt)
      rw [bare_get _ _ (by rw [E.out]; exact hlt), ← hx] at hh
      have q1 := (HO.out.2.1.cell (p := ⟨b, 0 + i * 2, none⟩) hb2).trans hh.1
      have q2 := (HO.out.2.1.cell (p := ⟨b, 0 + i * 2 + 1, none⟩) hb2).trans hh.2.1
      rw [Nat.zero_add] at q1 q2
      dsimp only at q1 q2
      have szr := HO.out.2.1.size
      have O2 : Aside (((wr.alloc (.cells #[.int .i64 x, .int .i64 0] 49)).alloc (.cells #[.int .i64 x] 2)).ownsRow w1.heap.size 2 1 u13 i ((ks.toList.take i).map (Value.int .i64))) := own_below (own_below HO.out.1 (below_alloc _ _)) (below_alloc _ _)
      have B2 : Aside (Below w1.heap.size W ((wr.alloc (.cells #[.int .i64 x, .int .i64 0] 49)).alloc (.cells #[.int .i64 x] 2)) ∧ ¬ u13 = .slice none 0 0) := ⟨(HO.out.2.1.alloc (by omega) _).alloc (by simp; omega) _, HO.out.2.2⟩
      have X : Aside ((ks.toList.take (i + 1)).map (Value.int .i64) = (ks.toList.take i).map (Value.int .i64) ++ [.int .i64 x]) := by
        show _ = _
        rw [List.take_succ_eq_append_getElem (by simp [E.out]; exact hlt), List.map_append, hx, getElem!_pos ks i (by rw [E.out]; exact hlt)]
        rfl
      obtain ⟨hi, hz0, hz1, hz2⟩ := hI.out
      clear hh HO hx
      go_wp2_with (at_builtin; refine wpList_append_own _ rfl _ _ 62 rfl w1.heap.size 2 i0 (.int .i64 0) 1 8 Tryz.underlying62 hi hz0 hz1 hz2 rfl (by decide) _ i _ rfl O2.out ⟨wr.heap.size + 1, 0, none⟩ 1 1 [.int .i64 x] rfl rfl ?c1 ?c2 ?c3 ?c4 ?c5 ?_)
      case c1 =>
        intro j u hj
        match j, hj with
        | 0, hj => simp at hj; subst hj; simp [Addr.add, go_sem]
      case c2 => intro u hu; simp at hu; subst hu; rfl
      case c3 => unfold maxLen; omega
      case c4 => omega
      case c5 => simp; omega
      intro v' w2 hown' hgrow hnil
      have O3 : Aside (w2.ownsRow w1.heap.size 2 1 v' (i + 1) ((ks.toList.take (i + 1)).map (Value.int .i64)) ∧ Below w1.heap.size W w2 ∧ ¬ v' = .slice none 0 0) := by
        refine ⟨?_, own_grown' O2.out B2.out.1 (Nat.le_refl _) (by simp; omega) hgrow, hnil⟩
        rw [X.out]
        simpa [List.map_take] using hown'
      clear hi hz0 hz1 hz2 q1 q2 O2 B2 hown' hgrow hnil
      go_wp2_with fail
      go_roundg (N - (i + 1))
      case measure => omega
      case rel => exact ⟨i + 1, by go_num, by omega, by omega, O3⟩
    · have hltz : ¬ (i : Int) < (N : Int) := by omega
      have e0 : i = N := by omega
      subst e0
      obtain ⟨hO, hBr, hnn⟩ := HO.out
      have eL : (ks.toList.take i).map (Value.int .i64) = ks.toList.map (Value.int .i64) := by rw [← E.out, ← Array.length_toList, List.take_length]
      rw [eL] at hO
      rcases own_row1 hO with h | ⟨g, kc, rfl, hg1, hg2, hkc, hks⟩
      · exact absurd h hnn
      have hks' : Holds e64 wr g 0 ks := hks
      have szr := hBr.size
      have HY : Aside (Holds2 wr b 0 (bare ks) ∧ b < wr.heap.size ∧ Below w.heap.size w wr) := ⟨Holds2_of_block (hBr.block b hb2) HW.out.1, by omega, BW.out.trans (hBr.mono (by omega))⟩
      have hC := hB.out wr g kc hg2 hks' (HN.out.keep HY.out.2.2)
      rw [E.out] at hC
      obtain ⟨p10, r10, p11, r11, p12, r12⟩ := FW.out
      have p10 := (hBr.cell (p := ⟨w.heap.size + 1, 0, none⟩) (by dsimp only; omega)).trans p10
      have r10 := (hBr.frozen (p := ⟨w.heap.size + 1, 0, none⟩) (by dsimp only; omega)).trans r10
      have p11 := (hBr.cell (p := ⟨w.heap.size + 1 + 1, 0, none⟩) (by dsimp only; omega)).trans p11
      have r11 := (hBr.frozen (p := ⟨w.heap.size + 1 + 1, 0, none⟩) (by dsimp only; omega)).trans r11
      have p12 := (hBr.cell (p := ⟨w.heap.size + 1 + 1 + 1, 0, none⟩) (by dsimp only; omega)).trans p12
      have r12 := (hBr.frozen (p := ⟨w.heap.size + 1 + 1 + 1, 0, none⟩) (by dsimp only; omega)).trans r12
      clear hO hBr hnn HO eL hks hks' hB HW BW FW OW q10
      go_wp2_with fail
      refine hC.mono ?_
      rintro e W2 ⟨_, rfl, S2, rn, rcap, rfl, hrn, hrb⟩
      have g2 := S2.grown
      have sz2 := g2.size
      have s10 := (kept_cell g2 (p := ⟨w.heap.size + 1, 0, none⟩) (by dsimp only; omega) (by simp; omega)).trans p10
      have t10 := (kept_frozen g2 (p := ⟨w.heap.size + 1, 0, none⟩) (by dsimp only; omega) (by simp; omega)).trans r10
      have s11 := (kept_cell g2 (p := ⟨w.heap.size + 1 + 1, 0, none⟩) (by dsimp only; omega) (by simp; omega)).trans p11
      have t11 := (kept_frozen g2 (p := ⟨w.heap.size + 1 + 1, 0, none⟩) (by dsimp only; omega) (by simp; omega)).trans r11
      have s12 := (kept_cell g2 (p := ⟨w.heap.size + 1 + 1 + 1, 0, none⟩) (by dsimp only; omega) (by simp; omega)).trans p12
      have t12 := (kept_frozen g2 (p := ⟨w.heap.size + 1 + 1 + 1, 0, none⟩) (by dsimp only; omega) (by simp; omega)).trans r12
      have B2 : Aside (Below w.heap.size w W2) := below_grownBy HY.out.2.2 g2 (by omega) (by omega)
      have N2 : Aside (RdN W2 rn nums ∧ (∀ blk off, rn = some ⟨blk, off, none⟩ → 0 < nums.size → wr.heap.size ≤ blk) ∧ Holds2 W2 b 0 (bare ks) ∧ Holds e64 W2 g 0 ks' ∧ g < W2.heap.size) := ⟨hrn, hrb, Holds2_of_block (g2.block b (by omega) (by simp; omega)) HY.out.1, S2.holds, S2.lt⟩
      clear S2 hrn hrb g2 p10 r10 p11 r11 p12 r12 hC HY HN
      go_upto_region 24 with fail
      obtain ⟨V, hV⟩ : ∃ V, V = W2.setCell ⟨w.heap.size + 1 + 1, 0, none⟩ (.slice rn nums.size rcap) := ⟨_, rfl⟩
      rw [← hV]
      have hblk : ∀ k, k ≠ w.heap.size + 1 + 1 → V.heap[k]? = W2.heap[k]? := fun k h => by rw [hV]; exact Below.heap_setCell _ _ _ _ h
      have szV : V.heap.size = W2.heap.size := by rw [hV]; simp
      have FV : Aside (V.cell? ⟨w.heap.size + 1, 0, none⟩ = some (.slice (some ⟨b, 0, none⟩) i c2) ∧ V.frozen? ⟨w.heap.size + 1, 0, none⟩ = false ∧ V.cell? ⟨w.heap.size + 1 + 1, 0, none⟩ = some (.slice rn nums.size rcap) ∧ V.frozen? ⟨w.heap.size + 1 + 1, 0, none⟩ = false ∧ V.cell? ⟨w.heap.size + 1 + 1 + 1, 0, none⟩ = some (.bool false) ∧ V.frozen? ⟨w.heap.size + 1 + 1 + 1, 0, none⟩ = false) :=
        ⟨(World.cell?_of_block (hblk _ (by dsimp only; omega))).trans s10, (World.frozen?_of_block (hblk _ (by dsimp only; omega))).trans t10, by rw [hV]; exact World.cell?_setCell_same _ _ _ s11, by rw [hV, World.frozen?_setCell]; exact t11, (World.cell?_of_block (hblk _ (by dsimp only; omega))).trans s12, (World.frozen?_of_block (hblk _ (by dsimp only; omega))).trans t12⟩
      have BV : Aside (Below w.heap.size w V) := by show Below _ _ _; rw [hV]; exact B2.out.setCell (by dsimp only; omega) _
      have NV : Aside (RdN V rn nums ∧ (∀ blk off, rn = some ⟨blk, off, none⟩ → 0 < nums.size → w.heap.size + 4 ≤ blk ∧ blk ≠ b) ∧ Holds2 V b 0 (bare ks) ∧ Holds e64 V g 0 ks') := by
        obtain ⟨n1, n2, n3, n4, n5⟩ := N2.out
        refine ⟨fun h0 => ?_, fun blk off e h0 => by have := n2 blk off e h0; exact ⟨by omega, by omega⟩, Holds2_of_block (hblk b (by omega)) n3, fun j hj => ⟨(World.cell?_of_block (hblk g (by omega))).trans (n4 j hj).1, (World.frozen?_of_block (hblk g (by omega))).trans (n4 j hj).2⟩⟩
        obtain ⟨blk, off, e, hl, hc⟩ := n1 h0
        have := n2 blk off e h0
        exact ⟨blk, off, e, by omega, fun i hi => (World.cell?_of_block (hblk blk (by omega))).trans (hc i hi)⟩
      have hbg : b ≠ g := by omega
      have hgV : g < V.heap.size := by have := N2.out.2.2.2.2; omega
      clear s10 t10 s11 t11 s12 t12 N2 B2 hV hblk
      go_wp2_with fail
      go_loopg [16, 17, 70] i (fun gg _ _ vi wy => ∃ (j : Nat) (dj : Array It), vi = .int .i64 j ∧ j ≤ i ∧ i - j ≤ gg ∧ Aside (dj.size = i ∧ Holds2 wy b 0 dj ∧ (∀ k, k < j → dj[k]! = (ks'[k]!, 0)) ∧ (∀ k, j ≤ k → k < i → dj[k]!.2 = 0) ∧ V.grownBy wy (some b)))
      case atStart => exact ⟨0, bare ks, rfl, Nat.zero_le _, by omega, by rw [bare_size]; exact E.out, NV.out.2.2.1, fun k hk => absurd hk (by omega), fun k _ hk => by rw [bare_get _ _ (by rw [E.out]; exact hk)], World.grownBy.refl _ _⟩
      case round =>
        obtain ⟨j, dj, rfl, hji, hgj, HO⟩ := hrel
        by_cases hlj : j < i
        · have hljz : (j : Int) < (i : Int) := by omega
          obtain ⟨hds, hdh, hd1, hd2, hdg⟩ := HO.out
          obtain ⟨x, hx⟩ : ∃ x, x = ks'[j]! := ⟨_, rfl⟩
          have hszy := hdg.size
          have q10 := (kept_cell hdg (p := ⟨w.heap.size + 1, 0, none⟩) (by dsimp only; omega) (by simp; omega)).trans FV.out.1
          have qk := (kept_cell hdg (p := ⟨g, 0 + j, none⟩) hgV (by simp; omega)).trans (NV.out.2.2.2 j (by rw [D.out, E.out]; exact hlj)).1
          rw [Nat.zero_add, ← hx] at qk
          have hh := hdh j (by omega)
          have qd := hh.1
          have fd := hh.2.2.1
          rw [Nat.zero_add] at qd fd
          simp only [e64] at qk
          have NX : Aside ((dj.set! j (x, dj[j]!.2)).size = i ∧ Holds2 (wr.setCell ⟨b, j * 2, none⟩ (.int .i64 x)) b 0 (dj.set! j (x, dj[j]!.2)) ∧ (∀ k, k < j + 1 → (dj.set! j (x, dj[j]!.2))[k]! = (ks'[k]!, 0)) ∧ (∀ k, j + 1 ≤ k → k < i → (dj.set! j (x, dj[j]!.2))[k]!.2 = 0) ∧ V.grownBy (wr.setCell ⟨b, j * 2, none⟩ (.int .i64 x)) (some b)) := by
            have hset : ∀ k, k < i → (dj.set! j (x, dj[j]!.2))[k]! = if k = j then (x, dj[j]!.2) else dj[k]! := fun k hk => by
              rw [Array.set!_eq_setIfInBounds, getElem!_pos (dj.setIfInBounds _ _) k (by simpa using (by omega : k < dj.size))]
              by_cases e : k = j
              · subst e; rw [if_pos rfl, Array.getElem_setIfInBounds_self]
              · rw [if_neg e, Array.getElem_setIfInBounds_ne _ (by omega), getElem!_pos dj k (by omega)]
            refine ⟨by simpa using hds, by have := holds2_setKey (x := x) hdh (i := j) (by omega); rwa [Nat.zero_add] at this, fun k hk => ?_, fun k h1 h2 => ?_, Go.Lib.grownBy_setB hdg _ _⟩
            · rw [hset k (by omega)]
              by_cases e : k = j
              · subst e; rw [if_pos rfl, hd2 k (Nat.le_refl _) hlj, hx]
              · rw [if_neg e]; exact hd1 k (by omega)
            · rw [hset k h2, if_neg (by omega)]; exact hd2 k (by omega) h2
          clear hds hdh hd1 hd2 hdg HO hh hx
          go_wp2_with fail
          go_roundg (i - (j + 1))
          case measure => omega
          case rel => exact ⟨j + 1, _, by go_num, by omega, by omega, NX⟩
        · have hljz : ¬ (j : Int) < (i : Int) := by omega
          have e0 : j = i := by omega
          subst e0
          obtain ⟨hds, hdh, hd1, _, hdg⟩ := HO.out
          have hfin : dj = bare ks' := by
            refine Array.ext (by rw [hds, bare_size, D.out, E.out]) (fun k h1 h2 => ?_)
            have hk : k < j := by omega
            have := hd1 k hk
            rw [getElem!_pos dj k h1] at this
            rw [this, ← bare_get ks' k (by rw [D.out, E.out]; exact hk), getElem!_pos (bare ks') k h2]
          rw [hfin] at hdh
          have hszy := hdg.size
          obtain ⟨u10, v10, u11, v11, u12, v12⟩ := FV.out
          replace u10 := (kept_cell hdg (p := ⟨w.heap.size + 1, 0, none⟩) (by dsimp only; omega) (by simp; omega)).trans u10
          replace v10 := (kept_frozen hdg (p := ⟨w.heap.size + 1, 0, none⟩) (by dsimp only; omega) (by simp; omega)).trans v10
          replace u11 := (kept_cell hdg (p := ⟨w.heap.size + 1 + 1, 0, none⟩) (by dsimp only; omega) (by simp; omega)).trans u11
          replace v11 := (kept_frozen hdg (p := ⟨w.heap.size + 1 + 1, 0, none⟩) (by dsimp only; omega) (by simp; omega)).trans v11
          replace u12 := (kept_cell hdg (p := ⟨w.heap.size + 1 + 1 + 1, 0, none⟩) (by dsimp only; omega) (by simp; omega)).trans u12
          replace v12 := (kept_frozen hdg (p := ⟨w.heap.size + 1 + 1 + 1, 0, none⟩) (by dsimp only; omega) (by simp; omega)).trans v12
          have BU : Aside (Below w.heap.size w wr) := below_grownBy BV.out hdg (by omega) (by omega)
          have NU : Aside (RdN wr rn nums ∧ (∀ blk off, rn = some ⟨blk, off, none⟩ → 0 < nums.size → w.heap.size + 4 ≤ blk) ∧ Holds2 wr b 0 (bare ks') ∧ b < wr.heap.size) := by
            obtain ⟨n1, n2, _, _⟩ := NV.out
            refine ⟨fun h0 => ?_, fun blk off e h0 => (n2 blk off e h0).1, hdh, by omega⟩
            obtain ⟨blk, off, e, hl, hc⟩ := n1 h0
            have := n2 blk off e h0
            exact ⟨blk, off, e, by omega, fun i hi => (kept_cell hdg (p := ⟨blk, off + i, none⟩) hl (by simp; omega)).trans (hc i hi)⟩
          clear hds hdh hd1 hdg HO NV BV FV hfin
          go_wp2_with fail
          go_region
          obtain ⟨X, hX⟩ : ∃ X, X = (((wr.setCell ⟨w.heap.size + 1, 0, none⟩ (.slice (some ⟨b, 0, none⟩) j c2)).setCell ⟨w.heap.size + 1 + 1, 0, none⟩ (.slice rn nums.size rcap)).setCell ⟨w.heap.size + 1 + 1 + 1, 0, none⟩ (.bool true)).drew := ⟨_, rfl⟩
          rw [← hX]
          have hblk : ∀ k, k ≠ w.heap.size + 1 → k ≠ w.heap.size + 1 + 1 → k ≠ w.heap.size + 1 + 1 + 1 → X.heap[k]? = wr.heap[k]? := fun k h1 h2 h3 => by
            rw [hX]
            exact (Below.heap_setCell _ _ _ _ h3).trans ((Below.heap_setCell _ _ _ _ h2).trans (Below.heap_setCell _ _ _ _ h1))
          have x10 : X.cell? ⟨w.heap.size + 1, 0, none⟩ = some (.slice (some ⟨b, 0, none⟩) j c2) := by
            rw [hX]
            refine Eq.trans (World.cell?_of_block (Below.heap_setCell _ _ _ _ (by dsimp only; omega))) (Eq.trans (World.cell?_of_block (Below.heap_setCell _ _ _ _ (by dsimp only; omega))) (World.cell?_setCell_same _ _ _ u10))
          have x11 : X.cell? ⟨w.heap.size + 1 + 1, 0, none⟩ = some (.slice rn nums.size rcap) := by
            rw [hX]
            refine Eq.trans (World.cell?_of_block (Below.heap_setCell _ _ _ _ (by dsimp only; omega))) (World.cell?_setCell_same _ _ (.slice rn nums.size rcap) (u := .slice rn nums.size rcap) ?_)
            exact Eq.trans (World.cell?_of_block (Below.heap_setCell _ _ _ _ (by dsimp only; omega))) u11
          have x12 : X.cell? ⟨w.heap.size + 1 + 1 + 1, 0, none⟩ = some (.bool true) := by
            rw [hX]
            refine World.cell?_setCell_same _ _ _ (u := .bool false) ?_
            exact Eq.trans (World.cell?_of_block (Below.heap_setCell _ _ _ _ (by dsimp only; omega))) (Eq.trans (World.cell?_of_block (Below.heap_setCell _ _ _ _ (by dsimp only; omega))) u12)
          have szX2 : X.heap.size = wr.heap.size := by rw [hX]; simp
          have BX : Aside (Below w.heap.size w X) := by show Below _ _ _; rw [hX]; exact (((BU.out.setCell (by dsimp only; omega) _).setCell (by dsimp only; omega) _).setCell (by dsimp only; omega) _).drew
          have NX : Aside (RdN X rn nums ∧ Holds2 X b 0 (bare ks') ∧ b < X.heap.size) := by
            show _ ∧ _ ∧ _
            obtain ⟨n1, n2, n3, n4⟩ := NU.out
            refine ⟨fun h0 => ?_, Holds2_of_block (hblk b (by omega) (by omega) (by omega)) n3, by omega⟩
            obtain ⟨blk, off, e, hl, hc⟩ := n1 h0
            have := n2 blk off e h0
            exact ⟨blk, off, e, by omega, fun i hi => (World.cell?_of_block (hblk blk (by omega) (by omega) (by omega))).trans (hc i hi)⟩
          clear u10 v10 u11 v11 u12 v12 NU BU hX hblk
          go_wp2_with fail
          refine leaves_cons (f := 39) (args := #[.pointer (some ⟨w.heap.size + 1 + 1 + 1, 0, none⟩)]) (by simp) (by simp [go_sem]) ?_
          refine (guarded_idle _ _).mono ?_
          rintro e u' w'' ⟨rfl, rfl, rfl⟩
          refine leaves_cons (f := 38) (args := #[.pointer (some ⟨w.heap.size + 1 + 1 + 1, 0, none⟩), .pointer (some ⟨w.heap.size + 1, 0, none⟩), .pointer (some ⟨w.heap.size + 1 + 1, 0, none⟩)]) (by simp [settle]) (by simp [go_sem]) ?_
          refine (inner1_idle _ _ _ _ _ x12).mono ?_
          rintro e u' w'' ⟨rfl, rfl, rfl⟩
          simp [Leaves, settle, results, Tryz.results28, go_sem, x10, x11, x12]
          obtain ⟨n1, n2, n3⟩ := NX.out
          have hd : (bare ks').size = j := by rw [bare_size, D.out, E.out]
          exact ⟨b, c2, rn, rcap, by rw [hd], by omega, n3, by rw [hd]; exact hcap, n2, n1, BX.out⟩
end Go.Proofs.YtglgmkikegbchaaGreat

/- Each inner function permutes its part, whatever comes of comparing. -/
namespace Go.Proofs.YtglgmkikegbchaaGreat
open Go.Sort Go.RowKit
section
variable {α : Type} [Inhabited α]
theorem perm_swapRange (_lt : α → α → Bool) (d : Array α) (X Y Z : Nat) (h1 : min X Y + Z ≤ max X Y) (h2 : max X Y + Z ≤ d.size) : PermIn (min X Y) (max X Y + Z) d (swapRange d X Y Z) := swapRange_perm _ _ d X Y Z (by omega) (by omega) (by omega) (by omega) h2
theorem perm_reverseRange (_lt : α → α → Bool) (d : Array α) (X Y : Nat) (h1 : X ≤ Y) (h2 : Y ≤ d.size) : PermIn X Y d (reverseRange d X Y) := reverseRange_holds d X Y h1 h2
theorem perm_rotate (_lt : α → α → Bool) (d : Array α) (X Y Z : Nat) (h1 : X < Y) (h2 : Y < Z) (h3 : Z ≤ d.size) : PermIn X Z d (rotate d X Y Z) := (rotate_spec d X Y Z h1 h2 h3).2
theorem perm_breakPatterns (_lt : α → α → Bool) (d : Array α) (X Y : Nat) (h1 : X ≤ Y) (h2 : Y ≤ d.size) : PermIn X Y d (breakPatterns d X Y) := breakPatterns_holds d X Y h1 h2
theorem perm_insertionSort (lt : α → α → Bool) (d : Array α) (X Y : Nat) (_h1 : X ≤ Y) (h2 : Y ≤ d.size) : PermIn X Y d (insertionSort lt d X Y) := insertionSort_perm d X Y h2
theorem perm_heapSort (lt : α → α → Bool) (d : Array α) (X Y : Nat) (h1 : X ≤ Y) (h2 : Y ≤ d.size) : PermIn X Y d (heapSort lt d X Y) := heapSort_perm d X Y h1 h2
theorem perm_siftDown (lt : α → α → Bool) (d : Array α) (X Y Z : Nat) (_h1 : X < Y) (h2 : Z + Y ≤ d.size) : PermIn Z (Z + Y) d (siftDown lt Y Z X d) := siftDown_perm Z (Z + Y) Y Z (Nat.le_refl _) (Nat.le_refl _) _ X d (Nat.le_refl _) h2
theorem perm_symMerge (lt : α → α → Bool) (d : Array α) (X Y Z : Nat) (h1 : X < Y) (h2 : Y < Z) (h3 : Z ≤ d.size) : PermIn X Z d (symMerge lt d X Y Z) := symMerge_perm lt _ X Y Z d (Nat.le_refl _) h1 h2 h3
theorem perm_stable (lt : α → α → Bool) (d : Array α) (X : Nat) (h1 : X ≤ d.size) : PermIn 0 X d (stable lt d X) := by
  have p1 := insBlocks_perm lt 20 X _ 0 d (Nat.le_refl _) h1 (fun d a b h => insertionSort_perm d a b h)
  exact permIn_trans _ _ _ _ _ p1 (stableLoop_perm lt X _ 20 _ (Nat.le_refl _) (by rw [p1.1]; exact h1))
theorem perm_pdqsort (lt : α → α → Bool) (d : Array α) (X Y Z : Nat) (h1 : X ≤ Y) (h2 : Y ≤ d.size) (_h3 : Z ≤ 64) : PermIn 0 Y d (pdq lt d X Y Z true true) := pdq_any lt d X Y Z true true h1 h2
theorem perm_partition (lt : α → α → Bool) (d : Array α) (X Y Z : Nat) (_h1 : X ≤ Y) (h2 : Y ≤ d.size) (h3 : X ≤ Z) (h4 : Z < Y) : PermIn X Y d (partition lt d X Y Z).2.2 := (partition_any d X Y Z h3 h4 h2).2.2
theorem perm_partitionEqual (lt : α → α → Bool) (d : Array α) (X Y Z : Nat) (_h1 : X ≤ Y) (h2 : Y ≤ d.size) (h3 : X ≤ Z) (h4 : Z < Y) : PermIn X Y d (partitionEqual lt d X Y Z).2 := (partitionEqual_any d X Y Z h3 h4 h2).2.2
theorem perm_partialInsertionSort (lt : α → α → Bool) (d : Array α) (X Y : Nat) (h1 : X < Y) (h2 : Y ≤ d.size) : PermIn 0 Y d (partialInsertionSort lt d X Y).1 := partialInsertionSort_perm d X Y h1 h2
theorem size_swapRange' (_lt : α → α → Bool) (d : Array α) (X Y Z : Nat) (_h1 : X + Z ≤ d.size) (_h2 : Y + Z ≤ d.size) : (swapRange d X Y Z).size = d.size := size_swapRange d X Y Z
theorem size_reverseRange (_lt : α → α → Bool) (d : Array α) (X Y : Nat) (h1 : X ≤ Y) (h2 : Y ≤ d.size) : (reverseRange d X Y).size = d.size := (reverseRange_holds d X Y h1 h2).1
theorem size_rotate (_lt : α → α → Bool) (d : Array α) (X Y Z : Nat) (h1 : X < Y) (h2 : Y < Z) (h3 : Z ≤ d.size) : (rotate d X Y Z).size = d.size := (rotate_spec d X Y Z h1 h2 h3).2.1
theorem size_breakPatterns (_lt : α → α → Bool) (d : Array α) (X Y : Nat) (h1 : X ≤ Y) (h2 : Y ≤ d.size) : (breakPatterns d X Y).size = d.size := (breakPatterns_holds d X Y h1 h2).1
theorem size_insertionSort (lt : α → α → Bool) (d : Array α) (X Y : Nat) (h1 : X ≤ Y) (h2 : Y ≤ d.size) : (insertionSort lt d X Y).size = d.size := (perm_insertionSort lt d X Y h1 h2).1
theorem size_heapSort (lt : α → α → Bool) (d : Array α) (X Y : Nat) (h1 : X ≤ Y) (h2 : Y ≤ d.size) : (heapSort lt d X Y).size = d.size := (perm_heapSort lt d X Y h1 h2).1
theorem size_siftDown' (lt : α → α → Bool) (d : Array α) (X Y Z : Nat) (h1 : X < Y) (h2 : Z + Y ≤ d.size) : (siftDown lt Y Z X d).size = d.size := (perm_siftDown lt d X Y Z h1 h2).1
theorem size_symMerge (lt : α → α → Bool) (d : Array α) (X Y Z : Nat) (h1 : X < Y) (h2 : Y < Z) (h3 : Z ≤ d.size) : (symMerge lt d X Y Z).size = d.size := (perm_symMerge lt d X Y Z h1 h2 h3).1
theorem size_stable (lt : α → α → Bool) (d : Array α) (X : Nat) (h1 : X ≤ d.size) : (stable lt d X).size = d.size := (perm_stable lt d X h1).1
theorem size_pdqsort (lt : α → α → Bool) (d : Array α) (X Y Z : Nat) (h1 : X ≤ Y) (h2 : Y ≤ d.size) (h3 : Z ≤ 64) : (pdq lt d X Y Z true true).size = d.size := (perm_pdqsort lt d X Y Z h1 h2 h3).1
theorem size_partition (lt : α → α → Bool) (d : Array α) (X Y Z : Nat) (h1 : X ≤ Y) (h2 : Y ≤ d.size) (h3 : X ≤ Z) (h4 : Z < Y) : (partition lt d X Y Z).2.2.size = d.size := (perm_partition lt d X Y Z h1 h2 h3 h4).1
theorem size_partitionEqual (lt : α → α → Bool) (d : Array α) (X Y Z : Nat) (h1 : X ≤ Y) (h2 : Y ≤ d.size) (h3 : X ≤ Z) (h4 : Z < Y) : (partitionEqual lt d X Y Z).2.size = d.size := (perm_partitionEqual lt d X Y Z h1 h2 h3 h4).1
theorem size_partialInsertionSort (lt : α → α → Bool) (d : Array α) (X Y : Nat) (h1 : X < Y) (h2 : Y ≤ d.size) : (partialInsertionSort lt d X Y).1.size = d.size := (perm_partialInsertionSort lt d X Y h1 h2).1
end
/-- A truth value as a number. -/
def flagN (b : Bool) : Int := if b then 1 else 0
theorem ltC_bare (o : Ordr) (h : o.kind = 0) (x y : Int) : ltC (cfO o) (x, 0) (y, 0) = ltInt x y := by
  unfold ltC ltInt cfO
  simp only [h]
  simp [sg]
  by_cases h1 : x < y
  · simp [h1]
  · by_cases h2 : y < x <;> simp [h1, h2]
end Go.Proofs.YtglgmkikegbchaaGreat

/- The functions of sorting know nothing of the elements but what comes of comparing: they commute with what leaves comparing as it is. -/
namespace Go.Proofs.YtglgmkikegbchaaGreat
open Go.Sort
section
variable {α β : Type} [Inhabited α] [Inhabited β] (g : β → α) (hd : g default = default)
include hd

theorem nat_at (ks : Array β) (i : Nat) : (ks.map g)[i]! = g ks[i]! := by
  rcases Nat.lt_or_ge i ks.size with h | h
  · rw [getElem!_pos _ i (by simpa using h), getElem!_pos ks i h]; simp
  · rw [getElem!_neg _ i (by simp; omega), getElem!_neg ks i (by omega), hd]
theorem nat_swp (ks : Array β) (i j : Nat) : swp (ks.map g) i j = (swp ks i j).map g := by
  unfold swp
  rw [Array.map_setIfInBounds, Array.map_setIfInBounds, nat_at g hd, nat_at g hd]
theorem nat_swapLoop (a b : Nat) : ∀ (k i : Nat) (ks : Array β), swapLoop a b k i (ks.map g) = (swapLoop a b k i ks).map g
  | 0, _, _ => rfl
  | k + 1, i, ks => by rw [swapLoop, swapLoop, nat_swp g hd, nat_swapLoop a b k]
theorem nat_swapRange (ks : Array β) (a b n : Nat) : swapRange (ks.map g) a b n = (swapRange ks a b n).map g := nat_swapLoop g hd a b n 0 ks
theorem nat_reverseLoop : ∀ (N i j : Nat) (ks : Array β), j - i ≤ N → reverseLoop i j (ks.map g) = (reverseLoop i j ks).map g := by
  intro N
  induction N with
  | zero => intro i j ks h; rw [reverseLoop, if_neg (by omega), reverseLoop, if_neg (by omega)]
  | succ N ih =>
    intro i j ks h
    conv => lhs; rw [reverseLoop]
    conv => rhs; rw [reverseLoop]
    split
    · rw [nat_swp g hd, ih _ _ _ (by omega)]
    · rfl
theorem nat_reverseRange (ks : Array β) (a b : Nat) : reverseRange (ks.map g) a b = (reverseRange ks a b).map g := nat_reverseLoop g hd _ a (b - 1) ks (Nat.le_refl _)
theorem nat_rotLoop (m : Nat) : ∀ (N i j : Nat) (ks : Array β), i + j ≤ N → rotLoop m i j (ks.map g) = (rotLoop m i j ks).map g := by
  intro N
  induction N with
  | zero =>
    intro i j ks h
    obtain rfl : i = 0 := by omega
    obtain rfl : j = 0 := by omega
    conv => lhs; rw [rotLoop, if_pos rfl]
    conv => rhs; rw [rotLoop, if_pos rfl]
    exact nat_swapRange g hd _ _ _ _
  | succ N ih =>
    intro i j ks h
    conv => lhs; rw [rotLoop]
    conv => rhs; rw [rotLoop]
    split
    · exact nat_swapRange g hd _ _ _ _
    · split
      · split
        · rw [nat_swapRange g hd, ih _ _ _ (by omega)]
        · rfl
      · split
        · rw [nat_swapRange g hd, ih _ _ _ (by omega)]
        · rfl
theorem nat_rotate (ks : Array β) (a m b : Nat) : rotate (ks.map g) a m b = (rotate ks a m b).map g := nat_rotLoop g hd m _ _ _ ks (Nat.le_refl _)
theorem nat_breakStep (a L M : Nat) (r : UInt64) (ks : Array β) (i : Nat) : breakStep a L M (r, ks.map g) i = ((breakStep a L M (r, ks) i).1, (breakStep a L M (r, ks) i).2.map g) := by
  unfold breakStep
  simp only [nat_swp g hd]
theorem nat_breakPatterns (ks : Array β) (a b : Nat) : breakPatterns (ks.map g) a b = (breakPatterns ks a b).map g := by
  unfold breakPatterns
  simp only []
  split
  · rw [nat_breakStep g hd, nat_breakStep g hd, nat_breakStep g hd]
  · rfl
theorem nat_upLoop : ∀ (n k : Nat) (ks : Array β), upLoop n k (ks.map g) = (upLoop n k ks).map g
  | 0, _, _ => rfl
  | n + 1, k, ks => by rw [upLoop, upLoop, nat_swp g hd, nat_upLoop n]
theorem nat_downLoop : ∀ (n k : Nat) (ks : Array β), downLoop n k (ks.map g) = (downLoop n k ks).map g
  | 0, _, _ => rfl
  | n + 1, k, ks => by rw [downLoop, downLoop, nat_swp g hd, nat_downLoop n]

variable (lt : α → α → Bool) (lt' : β → β → Bool) (hl : ∀ x y, lt (g x) (g y) = lt' x y)
include hl

theorem nat_insInner (a : Nat) : ∀ (j : Nat) (ks : Array β), insInner lt a j (ks.map g) = (insInner lt' a j ks).map g
  | 0, _ => rfl
  | j + 1, ks => by
    rw [insInner, insInner, nat_at g hd, nat_at g hd, hl]
    split
    · rw [nat_swp g hd, nat_insInner a j]
    · rfl
theorem nat_insOuter (a b : Nat) : ∀ (N i : Nat) (ks : Array β), b - i ≤ N → insOuter lt a b i (ks.map g) = (insOuter lt' a b i ks).map g := by
  intro N
  induction N with
  | zero => intro i ks h; rw [insOuter, if_neg (by omega), insOuter, if_neg (by omega)]
  | succ N ih =>
    intro i ks h
    conv => lhs; rw [insOuter]
    conv => rhs; rw [insOuter]
    split
    · rw [nat_insInner g hd lt lt' hl, ih _ _ (by omega)]
    · rfl
theorem nat_insertionSort (ks : Array β) (a b : Nat) : insertionSort lt (ks.map g) a b = (insertionSort lt' ks a b).map g := nat_insOuter g hd lt lt' hl a b _ _ ks (Nat.le_refl _)
theorem nat_siftDown (hi first : Nat) : ∀ (N r : Nat) (ks : Array β), hi - r ≤ N → siftDown lt hi first r (ks.map g) = (siftDown lt' hi first r ks).map g := by
  intro N
  induction N with
  | zero => intro r ks h; rw [siftDown, dif_pos (by omega), siftDown, dif_pos (by omega)]
  | succ N ih =>
    intro r ks h
    conv => lhs; rw [siftDown]
    conv => rhs; rw [siftDown]
    simp only [nat_at g hd, hl, nat_swp g hd]
    split
    · rfl
    · split
      · split
        · rfl
        · split
          · exact ih _ _ (by omega)
          · rfl
      · split
        · rfl
        · exact ih _ _ (by omega)
theorem nat_heapBuild (hi first : Nat) : ∀ (k : Nat) (ks : Array β), heapBuild lt hi first k (ks.map g) = (heapBuild lt' hi first k ks).map g
  | 0, _ => rfl
  | k + 1, ks => by rw [heapBuild, heapBuild, nat_siftDown g hd lt lt' hl hi first _ _ _ (Nat.le_refl _), nat_heapBuild hi first k]
theorem nat_heapPop (first : Nat) : ∀ (k : Nat) (ks : Array β), heapPop lt first k (ks.map g) = (heapPop lt' first k ks).map g
  | 0, _ => rfl
  | k + 1, ks => by rw [heapPop, heapPop, nat_swp g hd, nat_siftDown g hd lt lt' hl _ first _ _ _ (Nat.le_refl _), nat_heapPop first k]
theorem nat_heapSort (ks : Array β) (a b : Nat) : heapSort lt (ks.map g) a b = (heapSort lt' ks a b).map g := by
  rw [heapSort, heapSort, nat_heapBuild g hd lt lt' hl, nat_heapPop g hd lt lt' hl]
omit hl in
theorem nat_scanUp (p : α → Bool) (p' : β → Bool) (hp : ∀ x, p (g x) = p' x) (ks : Array β) (j : Nat) : ∀ (N i : Nat), j + 1 - i ≤ N → scanUp p (ks.map g) j i = scanUp p' ks j i := by
  intro N
  induction N with
  | zero => intro i h; rw [scanUp, if_neg (by simp; omega), scanUp, if_neg (by simp; omega)]
  | succ N ih =>
    intro i h
    conv => lhs; rw [scanUp]
    conv => rhs; rw [scanUp]
    rw [nat_at g hd, hp]
    split
    · rename_i hc
      simp only [Bool.and_eq_true, decide_eq_true_eq] at hc
      exact ih _ (by omega)
    · rfl
omit hl in
theorem nat_scanDown (p : α → Bool) (p' : β → Bool) (hp : ∀ x, p (g x) = p' x) (ks : Array β) (i : Nat) : ∀ j, scanDown p (ks.map g) i j = scanDown p' ks i j
  | 0 => rfl
  | j + 1 => by
    rw [scanDown, scanDown, nat_at g hd, hp]
    split
    · exact nat_scanDown p p' hp ks i j
    · rfl
theorem nat_partLoop (a : Nat) : ∀ (N i j : Nat) (ks : Array β), j + 1 - i ≤ N → partLoop lt a i j (ks.map g) = ((partLoop lt' a i j ks).1, (partLoop lt' a i j ks).2.map g) := by
  intro N
  induction N with
  | zero =>
    intro i j ks h
    conv => lhs; rw [partLoop_eq]
    conv => rhs; rw [partLoop_eq]
    have e1 := nat_scanUp g hd (fun x => lt x (ks.map g)[a]!) (fun x => lt' x ks[a]!) (fun x => by rw [nat_at g hd, hl]) ks j _ i (Nat.le_refl _)
    rw [e1]
    have e2 := nat_scanDown g hd (fun x => !lt x (ks.map g)[a]!) (fun x => !lt' x ks[a]!) (fun x => by rw [nat_at g hd, hl]) ks (scanUp (fun x => lt' x ks[a]!) ks j i) j
    rw [e2]
    obtain ⟨u1, _⟩ := scanUp_spec (fun x => lt' x ks[a]!) ks j _ i rfl
    obtain ⟨v1, _⟩ := scanDown_spec (fun x => !lt' x ks[a]!) ks (scanUp (fun x => lt' x ks[a]!) ks j i) j
    rw [if_pos (by omega), if_pos (by omega)]
  | succ N ih =>
    intro i j ks h
    conv => lhs; rw [partLoop_eq]
    conv => rhs; rw [partLoop_eq]
    have e1 := nat_scanUp g hd (fun x => lt x (ks.map g)[a]!) (fun x => lt' x ks[a]!) (fun x => by rw [nat_at g hd, hl]) ks j _ i (Nat.le_refl _)
    rw [e1]
    have e2 := nat_scanDown g hd (fun x => !lt x (ks.map g)[a]!) (fun x => !lt' x ks[a]!) (fun x => by rw [nat_at g hd, hl]) ks (scanUp (fun x => lt' x ks[a]!) ks j i) j
    rw [e2]
    obtain ⟨u1, _⟩ := scanUp_spec (fun x => lt' x ks[a]!) ks j _ i rfl
    obtain ⟨v1, _⟩ := scanDown_spec (fun x => !lt' x ks[a]!) ks (scanUp (fun x => lt' x ks[a]!) ks j i) j
    split
    · rfl
    · rw [nat_swp g hd]; exact ih _ _ _ (by omega)
theorem nat_partition (ks : Array β) (a b pv : Nat) : partition lt (ks.map g) a b pv = ((partition lt' ks a b pv).1, (partition lt' ks a b pv).2.1, (partition lt' ks a b pv).2.2.map g) := by
  unfold partition
  simp only [nat_swp g hd]
  generalize swp ks a pv = d
  have e1 := nat_scanUp g hd (fun x => lt x (d.map g)[a]!) (fun x => lt' x d[a]!) (fun x => by rw [nat_at g hd, hl]) d (b - 1) _ (a + 1) (Nat.le_refl _)
  rw [e1]
  have e2 := nat_scanDown g hd (fun x => !lt x (d.map g)[a]!) (fun x => !lt' x d[a]!) (fun x => by rw [nat_at g hd, hl]) d (scanUp (fun x => lt' x d[a]!) d (b - 1) (a + 1)) (b - 1)
  rw [e2]
  split
  · rfl
  · rw [nat_partLoop g hd lt lt' hl a _ _ _ _ (Nat.le_refl _), nat_swp g hd]
theorem nat_partEqLoop (a : Nat) : ∀ (N i j : Nat) (ks : Array β), j + 1 - i ≤ N → partEqLoop lt a i j (ks.map g) = ((partEqLoop lt' a i j ks).1, (partEqLoop lt' a i j ks).2.map g) := by
  intro N
  induction N with
  | zero =>
    intro i j ks h
    conv => lhs; rw [partEqLoop_eq]
    conv => rhs; rw [partEqLoop_eq]
    have e1 := nat_scanUp g hd (fun x => !lt (ks.map g)[a]! x) (fun x => !lt' ks[a]! x) (fun x => by rw [nat_at g hd, hl]) ks j _ i (Nat.le_refl _)
    rw [e1]
    have e2 := nat_scanDown g hd (fun x => lt (ks.map g)[a]! x) (fun x => lt' ks[a]! x) (fun x => by rw [nat_at g hd, hl]) ks (scanUp (fun x => !lt' ks[a]! x) ks j i) j
    rw [e2]
    obtain ⟨u1, _⟩ := scanUp_spec (fun x => !lt' ks[a]! x) ks j _ i rfl
    obtain ⟨v1, _⟩ := scanDown_spec (fun x => lt' ks[a]! x) ks (scanUp (fun x => !lt' ks[a]! x) ks j i) j
    rw [if_pos (by omega), if_pos (by omega)]
  | succ N ih =>
    intro i j ks h
    conv => lhs; rw [partEqLoop_eq]
    conv => rhs; rw [partEqLoop_eq]
    have e1 := nat_scanUp g hd (fun x => !lt (ks.map g)[a]! x) (fun x => !lt' ks[a]! x) (fun x => by rw [nat_at g hd, hl]) ks j _ i (Nat.le_refl _)
    rw [e1]
    have e2 := nat_scanDown g hd (fun x => lt (ks.map g)[a]! x) (fun x => lt' ks[a]! x) (fun x => by rw [nat_at g hd, hl]) ks (scanUp (fun x => !lt' ks[a]! x) ks j i) j
    rw [e2]
    obtain ⟨u1, _⟩ := scanUp_spec (fun x => !lt' ks[a]! x) ks j _ i rfl
    obtain ⟨v1, _⟩ := scanDown_spec (fun x => lt' ks[a]! x) ks (scanUp (fun x => !lt' ks[a]! x) ks j i) j
    split
    · rfl
    · rw [nat_swp g hd]; exact ih _ _ _ (by omega)
theorem nat_partitionEqual (ks : Array β) (a b pv : Nat) : partitionEqual lt (ks.map g) a b pv = ((partitionEqual lt' ks a b pv).1, (partitionEqual lt' ks a b pv).2.map g) := by
  unfold partitionEqual
  rw [nat_swp g hd, nat_partEqLoop g hd lt lt' hl a _ _ _ _ (Nat.le_refl _)]
theorem nat_scanSorted (ks : Array β) (b : Nat) : ∀ (N i : Nat), b - i ≤ N → scanSorted lt (ks.map g) b i = scanSorted lt' ks b i := by
  intro N
  induction N with
  | zero => intro i h; rw [scanSorted, if_neg (by simp; omega), scanSorted, if_neg (by simp; omega)]
  | succ N ih =>
    intro i h
    conv => lhs; rw [scanSorted]
    conv => rhs; rw [scanSorted]
    rw [nat_at g hd, nat_at g hd, hl]
    split
    · rename_i hc
      simp only [Bool.and_eq_true, decide_eq_true_eq] at hc
      exact ih _ (by omega)
    · rfl
theorem nat_shiftDown : ∀ (j : Nat) (ks : Array β), shiftDown lt j (ks.map g) = (shiftDown lt' j ks).map g
  | 0, _ => rfl
  | j + 1, ks => by
    rw [shiftDown, shiftDown, nat_at g hd, nat_at g hd, hl]
    split
    · rfl
    · rw [nat_swp g hd, nat_shiftDown j]
theorem nat_shiftUp (b : Nat) : ∀ (N j : Nat) (ks : Array β), b - j ≤ N → shiftUp lt b j (ks.map g) = (shiftUp lt' b j ks).map g := by
  intro N
  induction N with
  | zero => intro j ks h; rw [shiftUp, if_neg (by omega), shiftUp, if_neg (by omega)]
  | succ N ih =>
    intro j ks h
    conv => lhs; rw [shiftUp]
    conv => rhs; rw [shiftUp]
    rw [nat_at g hd, nat_at g hd, hl]
    split
    · split
      · rfl
      · rw [nat_swp g hd]; exact ih _ _ (by omega)
    · rfl
theorem nat_partialIns (a b : Nat) : ∀ (s i : Nat) (ks : Array β), partialIns lt a b s i (ks.map g) = ((partialIns lt' a b s i ks).1.map g, (partialIns lt' a b s i ks).2)
  | 0, _, _ => rfl
  | s + 1, i, ks => by
    rw [partialIns, partialIns, nat_scanSorted g hd lt lt' hl ks b _ _ (Nat.le_refl _)]
    generalize scanSorted lt' ks b i = k
    simp only []
    split
    · rfl
    · split
      · rfl
      · have e1 : (if k - a ≥ 2 then shiftDown lt (k - 1) (swp (ks.map g) k (k - 1)) else swp (ks.map g) k (k - 1)) = (if k - a ≥ 2 then shiftDown lt' (k - 1) (swp ks k (k - 1)) else swp ks k (k - 1)).map g := by
          rw [nat_swp g hd, nat_shiftDown g hd lt lt' hl]; split <;> rfl
        rw [e1]
        generalize (if k - a ≥ 2 then shiftDown lt' (k - 1) (swp ks k (k - 1)) else swp ks k (k - 1)) = d2
        have e2 : (if b - k ≥ 2 then shiftUp lt b (k + 1) (d2.map g) else d2.map g) = (if b - k ≥ 2 then shiftUp lt' b (k + 1) d2 else d2).map g := by
          rw [nat_shiftUp g hd lt lt' hl b _ _ _ (Nat.le_refl _)]; split <;> rfl
        rw [e2]
        exact nat_partialIns a b s k _
theorem nat_partialInsertionSort (ks : Array β) (a b : Nat) : partialInsertionSort lt (ks.map g) a b = ((partialInsertionSort lt' ks a b).1.map g, (partialInsertionSort lt' ks a b).2) := nat_partialIns g hd lt lt' hl a b 5 (a + 1) ks
theorem nat_order2 (ks : Array β) (a b s : Nat) : order2 lt (ks.map g) a b s = order2 lt' ks a b s := by
  unfold order2; rw [nat_at g hd, nat_at g hd, hl]
theorem nat_median (ks : Array β) (a b c s : Nat) : median lt (ks.map g) a b c s = median lt' ks a b c s := by
  unfold median; simp only [nat_order2 g hd lt lt' hl]
theorem nat_medianAdjacent (ks : Array β) (a s : Nat) : medianAdjacent lt (ks.map g) a s = medianAdjacent lt' ks a s := nat_median g hd lt lt' hl ks _ _ _ s
theorem nat_choosePivot (ks : Array β) (a b : Nat) : choosePivot lt (ks.map g) a b = choosePivot lt' ks a b := by
  unfold choosePivot; simp only [nat_medianAdjacent g hd lt lt' hl, nat_median g hd lt lt' hl]
theorem nat_symMerge : ∀ (N a m b : Nat) (ks : Array β), b - a ≤ N → symMerge lt (ks.map g) a m b = (symMerge lt' ks a m b).map g := by
  intro N
  induction N with
  | zero =>
    intro a m b ks h
    conv => lhs; rw [symMerge]
    conv => rhs; rw [symMerge]
    simp only [nat_at g hd, hl, nat_upLoop g hd, nat_downLoop g hd]
    split
    · rfl
    · split
      · rfl
      · rw [dif_neg (by omega), dif_neg (by omega), dif_neg (by omega), dif_neg (by omega), nat_rotate g hd]
        rw [apply_ite (Array.map g)]
  | succ N ih =>
    intro a m b ks h
    conv => lhs; rw [symMerge]
    conv => rhs; rw [symMerge]
    simp only [nat_at g hd, hl, nat_upLoop g hd, nat_downLoop g hd]
    split
    · rfl
    · split
      · rfl
      · generalize bsearch (fun c => !lt' ks[(a + b) / 2 + m - 1 - c]! ks[c]!) (if m > (a + b) / 2 then (a + b) / 2 + m - b else a) (if m > (a + b) / 2 then (a + b) / 2 else m) = st
        have e1 : (if st < m ∧ m < (a + b) / 2 + m - st then rotate (ks.map g) st m ((a + b) / 2 + m - st) else ks.map g) = (if st < m ∧ m < (a + b) / 2 + m - st then rotate ks st m ((a + b) / 2 + m - st) else ks).map g := by
          rw [nat_rotate g hd]; split <;> rfl
        rw [e1]
        generalize (if st < m ∧ m < (a + b) / 2 + m - st then rotate ks st m ((a + b) / 2 + m - st) else ks) = d1
        have e2 : (if _h : (a < st ∧ st < (a + b) / 2) ∧ (a + b) / 2 < b then symMerge lt (d1.map g) a st ((a + b) / 2) else d1.map g) = (if _h : (a < st ∧ st < (a + b) / 2) ∧ (a + b) / 2 < b then symMerge lt' d1 a st ((a + b) / 2) else d1).map g := by
          split
          · exact ih _ _ _ _ (by omega)
          · rfl
        rw [e2]
        generalize (if _h : (a < st ∧ st < (a + b) / 2) ∧ (a + b) / 2 < b then symMerge lt' d1 a st ((a + b) / 2) else d1) = d2
        split
        · exact ih _ _ _ _ (by omega)
        · rfl
theorem nat_insBlocks (s n : Nat) : ∀ (N a : Nat) (ks : Array β), n - a ≤ N → insBlocks lt s n a (ks.map g) = (insBlocks lt' s n a ks).map g := by
  intro N
  induction N with
  | zero => intro a ks h; rw [insBlocks, dif_neg (by omega), insBlocks, dif_neg (by omega), nat_insertionSort g hd lt lt' hl]
  | succ N ih =>
    intro a ks h
    conv => lhs; rw [insBlocks]
    conv => rhs; rw [insBlocks]
    split
    · rw [nat_insertionSort g hd lt lt' hl, ih _ _ (by omega)]
    · rw [nat_insertionSort g hd lt lt' hl]
theorem nat_mergePass (s n : Nat) : ∀ (N a : Nat) (ks : Array β), n - a ≤ N → mergePass lt s n a (ks.map g) = (mergePass lt' s n a ks).map g := by
  intro N
  induction N with
  | zero => intro a ks h; rw [mergePass, dif_neg (by omega), if_neg (by omega), mergePass, dif_neg (by omega), if_neg (by omega)]
  | succ N ih =>
    intro a ks h
    conv => lhs; rw [mergePass]
    conv => rhs; rw [mergePass]
    split
    · rw [nat_symMerge g hd lt lt' hl _ _ _ _ _ (Nat.le_refl _), ih _ _ (by omega)]
    · split
      · rw [nat_symMerge g hd lt lt' hl _ _ _ _ _ (Nat.le_refl _)]
      · rfl
theorem nat_stableLoop (n : Nat) : ∀ (N s : Nat) (ks : Array β), n - s ≤ N → stableLoop lt n s (ks.map g) = (stableLoop lt' n s ks).map g := by
  intro N
  induction N with
  | zero => intro s ks h; rw [stableLoop, dif_neg (by omega), stableLoop, dif_neg (by omega)]
  | succ N ih =>
    intro s ks h
    conv => lhs; rw [stableLoop]
    conv => rhs; rw [stableLoop]
    split
    · rw [nat_mergePass g hd lt lt' hl _ _ _ _ _ (Nat.le_refl _), ih _ _ (by omega)]
    · rfl
theorem nat_stable (ks : Array β) (n : Nat) : stable lt (ks.map g) n = (stable lt' ks n).map g := by
  rw [stable, stable, nat_insBlocks g hd lt lt' hl _ _ _ _ _ (Nat.le_refl _), nat_stableLoop g hd lt lt' hl _ _ _ _ (Nat.le_refl _)]
theorem nat_pdq : ∀ (N : Nat) (ks : Array β) (a b limit : Nat) (wb wp : Bool), b - a ≤ N → pdq lt (ks.map g) a b limit wb wp = (pdq lt' ks a b limit wb wp).map g := by
  intro N
  induction N with
  | zero => intro ks a b limit wb wp h; rw [pdq_small (by omega), pdq_small (by omega), nat_insertionSort g hd lt lt' hl]
  | succ N ih =>
    intro ks a b limit wb wp h
    conv => lhs; rw [pdq_unfold]
    conv => rhs; rw [pdq_unfold]
    obtain ⟨d1, lim, c, d2, pivot, hint, pi, hr⟩ : ∃ d1 lim c d2 pivot hint pi, rd lt' ks a b limit wb wp = ⟨d1, lim, c, d2, pivot, hint, pi⟩ := ⟨_, _, _, _, _, _, _, rfl⟩
    have hr2 : rd lt (ks.map g) a b limit wb wp = ⟨d1.map g, lim, c, d2.map g, pivot, hint, (pi.1.map g, pi.2)⟩ := by
      unfold rd at hr ⊢
      simp only [Rd.mk.injEq] at hr ⊢
      obtain ⟨e1, e2, e3, e4, e5, e6, e7⟩ := hr
      have f1 : (if (!wb) = true then breakPatterns (ks.map g) a b else ks.map g) = d1.map g := by rw [← e1, nat_breakPatterns g hd]; split <;> rfl
      rw [f1]
      rw [e1] at e3 e4 e5 e6 e7
      rw [nat_choosePivot g hd lt lt' hl, e3]
      rw [e3] at e4 e5 e6 e7
      have f4 : (if c.2 = .decreasing then reverseRange (d1.map g) a b else d1.map g) = d2.map g := by rw [← e4, nat_reverseRange g hd]; split <;> rfl
      rw [f4, e5, e6]
      rw [e4, e6] at e7
      refine ⟨rfl, e2, rfl, rfl, rfl, rfl, ?_⟩
      rw [← e7, nat_partialInsertionSort g hd lt lt' hl]
      split <;> rfl
    rw [hr, hr2]
    obtain ⟨p1, p2⟩ := pi
    simp only [nat_at g hd, hl, nat_partitionEqual g hd lt lt' hl, nat_partition g hd lt lt' hl]
    split
    · rw [nat_insertionSort g hd lt lt' hl]
    · split
      · rw [nat_heapSort g hd lt lt' hl]
      · split
        · rfl
        · split
          · split
            · exact ih _ _ _ _ _ _ (by omega)
            · rfl
          · split
            · split
              · rw [ih _ _ _ _ _ _ (by omega), ih _ _ _ _ _ _ (by omega)]
              · rw [ih _ _ _ _ _ _ (by omega), ih _ _ _ _ _ _ (by omega)]
            · rfl
end
end Go.Proofs.YtglgmkikegbchaaGreat

/- faced: a list as an Interface. -/
namespace Go.Proofs.YtglgmkikegbchaaGreat
open Go.RowKit Go.Sort

abbrev vFace (b cap n : Nat) (o : Ordr) : Value := .agg #[.slice (some ⟨b, 0, none⟩) n cap, .int .i64 o.kind, .int .i64 o.shift, .int .u64 o.m0, .int .u64 o.m1, .int .u64 o.m2]

set_option maxHeartbeats 4000000 in
set_option maxRecDepth 1000000 in
theorem faced_less (o : Ordr) (HO : CmpC (vOrd o) (cfO o)) (w0 W : World) (b cap n : Nat) (d : Array It) (S : St2 w0 b 0 d W) (hn : d.size = n) (i j : Nat) (hi : i < n) (hj : j < n) :
    Calls Tryz.prog 197 #[vFace b cap n o, .int .i64 i, .int .i64 j] W fun e w' => e = .returned (.bool (ltC (cfO o) d[i]! d[j]!)) ∧ ∃ q os, w' = grow (W.drewN q) os := by
  have mixed : Tryz.prog.follows .mixedOrders = true := by kernel_rfl
  obtain ⟨k, s, m0, m1, m2⟩ := o
  obtain ⟨⟨x1, x2⟩, hx⟩ : ∃ x : It, x = d[i]! := ⟨_, rfl⟩
  obtain ⟨⟨y1, y2⟩, hy⟩ : ∃ y : It, y = d[j]! := ⟨_, rfl⟩
  have hcc := HO (x1, x2) (y1, y2)
  dsimp only [vIt, vOrd] at hcc
  obtain ⟨c, hc⟩ : ∃ c, c = cfO ⟨k, s, m0, m1, m2⟩ (x1, x2) (y1, y2) := ⟨_, rfl⟩
  rw [← hc] at hcc
  have hV : ltC (cfO ⟨k, s, m0, m1, m2⟩) d[i]! d[j]! = decide (c < 0) := by show decide _ = _; rw [← hx, ← hy, ← hc]
  rw [hV]
  obtain ⟨V, eV⟩ : ∃ V, V = W.alloc (.cells #[.slice (some ⟨b, 0, none⟩) n cap, .int .i64 k, .int .i64 s, .int .u64 m0, .int .u64 m1, .int .u64 m2] 61) := ⟨_, rfl⟩
  have hVs : ∀ a v, W.cell? a = some v → a.block < W.heap.size → V.cell? a = some v := fun a v h hb => by rw [eV]; exact (World.cell?_of_block (heap_alloc_old _ _ hb)).trans h
  have nb : V.heap[W.heap.size]? = some (.cells #[.slice (some ⟨b, 0, none⟩) n cap, .int .i64 k, .int .i64 s, .int .u64 m0, .int .u64 m1, .int .u64 m2] 61 (0, 0)) := by rw [eV]; exact heap_alloc_new _ _
  have cb : ∀ (q : Nat) (v : Value) (n' : Nat) (os : Array Obj), (#[Value.slice (some ⟨b, 0, none⟩) n cap, .int .i64 k, .int .i64 s, .int .u64 m0, .int .u64 m1, .int .u64 m2] : Array Value)[q]? = some v → (grow (V.drewN n') os).cell? ⟨W.heap.size, q, none⟩ = some v := fun q v n' os h => by
    refine cell_grown (by rw [eV]; simp) ?_ n' os
    simp [World.cell?, nb, h]
  have b0 := fun n' os => cb 0 _ n' os rfl
  have b1 := fun n' os => cb 1 _ n' os rfl
  have b2 := fun n' os => cb 2 _ n' os rfl
  have b3 := fun n' os => cb 3 _ n' os rfl
  have b4 := fun n' os => cb 4 _ n' os rfl
  have b5 := fun n' os => cb 5 _ n' os rfl
  obtain ⟨h11, h12, _, _⟩ := S.holds i (by omega)
  obtain ⟨h21, h22, _, _⟩ := S.holds j (by omega)
  rw [← hx] at h11 h12
  rw [← hy] at h21 h22
  rw [Nat.zero_add] at h11 h12 h21 h22
  have hl := S.lt
  have szV : V.heap.size = W.heap.size + 1 := by rw [eV]; simp
  have c11 := fun n' os => cell_grown (w := V) (a := ⟨b, i * 2, none⟩) (by dsimp only; omega) (hVs _ _ h11 hl) n' os
  have c12 := fun n' os => cell_grown (w := V) (a := ⟨b, i * 2 + 1, none⟩) (by dsimp only; omega) (hVs _ _ h12 hl) n' os
  have c21 := fun n' os => cell_grown (w := V) (a := ⟨b, j * 2, none⟩) (by dsimp only; omega) (hVs _ _ h21 hl) n' os
  have c22 := fun n' os => cell_grown (w := V) (a := ⟨b, j * 2 + 1, none⟩) (by dsimp only; omega) (hVs _ _ h22 hl) n' os
  dsimp only at c11 c12 c21 c22
  have l1 : (i : Int) < (n : Int) := by omega
  have l2 : (j : Int) < (n : Int) := by omega
  have EW : Aside (V = W.alloc (.cells #[.slice (some ⟨b, 0, none⟩) n cap, .int .i64 k, .int .i64 s, .int .u64 m0, .int .u64 m1, .int .u64 m2] 61)) := eV
  clear h11 h12 h21 h22 hl szV hVs cb S hV hx hy hc HO nb hi hj
  go_enter Tryz.func197, Tryz.ntmps197
  go_upto_region 1 with fail
  rw [← eV]
  clear eV
  go_quiet_grown (first | (go_at_call 43; refine Calls.grown_of (hcc _)))
  go_wp2_with fail
  go_ret
  exact ⟨rfl, nq, _, by rw [EW.out, alloc_eq_grow]; exact grow_grow (W.drewN nq) _ _⟩

theorem st2_alloc {w0 W : World} {b : Nat} {d : Array It} (S : St2 w0 b 0 d W) (o : Obj) : St2 w0 b 0 d (W.alloc o) := by
  have := S.grow 0 #[o]
  rwa [show Go.Sort.grow (W.drewN 0) #[o] = W.alloc o by rw [alloc_eq_grow]; rfl] at this

set_option maxHeartbeats 8000000 in
set_option maxRecDepth 1000000 in
theorem faced_swap (o : Ordr) (w0 W : World) (b cap n : Nat) (d : Array It) (S : St2 w0 b 0 d W) (hn : d.size = n) (i j : Nat) (hi : i < n) (hj : j < n) :
    Calls Tryz.prog 198 #[vFace b cap n o, .int .i64 i, .int .i64 j] W fun e w' => e = .returned (.tuple #[]) ∧ St2 w0 b 0 (swp d i j) w' ∧ W.grownBy w' (some b) := by
  have mixed : Tryz.prog.follows .mixedOrders = true := by kernel_rfl
  obtain ⟨k, s, m0, m1, m2⟩ := o
  obtain ⟨⟨x1, x2⟩, hx⟩ : ∃ x : It, x = d[i]! := ⟨_, rfl⟩
  obtain ⟨⟨y1, y2⟩, hy⟩ : ∃ y : It, y = d[j]! := ⟨_, rfl⟩
  obtain ⟨V, eV⟩ : ∃ V, V = W.alloc (.cells #[.slice (some ⟨b, 0, none⟩) n cap, .int .i64 k, .int .i64 s, .int .u64 m0, .int .u64 m1, .int .u64 m2] 61) := ⟨_, rfl⟩
  have SV : St2 w0 b 0 d V := by rw [eV]; exact st2_alloc S _
  have SW : St2 W b 0 d V := ⟨SV.holds, SV.lt, by rw [eV]; exact World.grownBy_alloc _ _ _⟩
  have nb : V.heap[W.heap.size]? = some (.cells #[.slice (some ⟨b, 0, none⟩) n cap, .int .i64 k, .int .i64 s, .int .u64 m0, .int .u64 m1, .int .u64 m2] 61 (0, 0)) := by rw [eV]; exact heap_alloc_new _ _
  have b0 : V.cell? ⟨W.heap.size, 0, none⟩ = some (.slice (some ⟨b, 0, none⟩) n cap) := by simp [World.cell?, nb]
  have hne : ¬ b = W.heap.size := by have := S.lt; omega
  obtain ⟨c11, c12, f11, f12⟩ := SV.holds i (by omega)
  obtain ⟨c21, c22, f21, f22⟩ := SV.holds j (by omega)
  rw [← hx] at c11 c12
  rw [← hy] at c21 c22
  dsimp only at c11 c12 c21 c22
  obtain ⟨u3, g3⟩ := SV.third i j (by omega) (by omega) (.int .i64 y1) (.int .i64 y2)
  obtain ⟨u4, g4⟩ := SV.fourth i j (by omega) (by omega) (.int .i64 y1) (.int .i64 y2) (.int .i64 x1)
  have S2 : Aside _ := (SV.swap (by omega) (by omega) hx hy).drew
  have S3 : Aside _ := (SW.swap (by omega) (by omega) hx hy).drew
  dsimp only at S2 S3
  simp only [Nat.zero_add] at c11 c12 c21 c22 f11 f12 f21 f22 g3 g4
  have l1 : (i : Int) < (n : Int) := by omega
  have l2 : (j : Int) < (n : Int) := by omega
  clear hx hy SV SW nb S hi hj
  go_enter Tryz.func198, Tryz.ntmps198
  go_upto_region 1 with fail
  rw [← eV]
  clear eV
  go_region
  simp only [Nat.zero_add] at S2 S3
  generalize ((((V.setCell ⟨b, i * 2, none⟩ (.int .i64 y1)).setCell ⟨b, i * 2 + 1, none⟩ (.int .i64 y2)).setCell ⟨b, j * 2, none⟩ (.int .i64 x1)).setCell ⟨b, j * 2 + 1, none⟩ (.int .i64 x2)).drew = V2 at S2 S3 ⊢
  clear c11 c12 c21 c22 f11 f12 f21 f22 g3 g4 b0
  go_wp2_with fail
  go_end0
  exact ⟨rfl, S2.out, S3.out.grown⟩

theorem face_ok (o : Ordr) (HO : CmpC (vOrd o) (cfO o)) (w0 : World) (b cap n : Nat) : FaceOk 61 (vFace b cap n o) (ltC (cfO o)) w0 b 0 n 197 198 (vFace b cap n o) (vFace b cap n o) where
  eL := fun args w => by kernel_rfl
  eS := fun args w => by kernel_rfl
  methL := fun d W _ => by kernel_rfl
  methS := fun d W _ => by kernel_rfl
  less := fun d W i j hd S hi hj => faced_less o HO w0 W b cap n d S hd i j hi hj
  swap := fun d W i j hd S hi hj => faced_swap o w0 W b cap n d S hd i j hi hj
end Go.Proofs.YtglgmkikegbchaaGreat

/- impl.Inner, over an Interface (printed by gen/inner.py). -/
namespace Go.Proofs.YtglgmkikegbchaaGreat
open Go.RowKit Go.Sort

set_option maxHeartbeats 2000000 in
set_option maxRecDepth 1000000 in
theorem inner_f (f : Int) (a : Option Addr) (cap : Nat) (d d' : Array It) (o : Ordr) (na : Option Addr) (n ncap : Nat) (ns nums : Array Int) (w : World) (h : Rd2 w a d) (hN : RdN w na ns) (hsz : d.size ≤ 2000) (hd : d'.size = d.size)
    (hm : ∀ W, Calls Tryz.prog 40 #[.int .i64 f] W fun e w' => e = .returned (.int .i64 n) ∧ w' = W)
    (HB : ∀ (W : World) (b cap' : Nat), b < W.heap.size → Holds2 W b 0 d → RdN W na ns → Calls Tryz.prog 44 #[.int .i64 f, .agg #[.slice (some ⟨b, 0, none⟩) d.size cap', .int .i64 o.kind, .int .i64 o.shift, .int .u64 o.m0, .int .u64 o.m1, .int .u64 o.m2], .slice na n ncap] W fun e W' => ∃ nv, e = .returned nv ∧ St2 W b 0 d' W' ∧ NumsAt W W' nv nums) :
    Calls Tryz.prog 28 #[.int .i64 1, .int .i64 f, .slice a d.size cap, vOrd o, .slice na n ncap] w (InnerTo w d' nums) := by
  have H : Aside (Rd2 w a d ∧ RdN w na ns) := ⟨h, hN⟩
  have hB : Aside (∀ (W : World) (b cap' : Nat), b < W.heap.size → Holds2 W b 0 d → RdN W na ns → Calls Tryz.prog 44 #[.int .i64 f, .agg #[.slice (some ⟨b, 0, none⟩) d.size cap', .int .i64 o.kind, .int .i64 o.shift, .int .u64 o.m0, .int .u64 o.m1, .int .u64 o.m2], .slice na n ncap] W fun e W' => ∃ nv, e = .returned nv ∧ St2 W b 0 d' W' ∧ NumsAt W W' nv nums) := HB
  have D : Aside (d'.size = d.size) := hd
  clear h hN HB hd
  obtain ⟨k, s, m0, m1, m2⟩ := o
  have hmf : ∀ (fn : Fn) (first cap : Array Value) (w : World), (Instr.makeFunc fn first cap).run Tryz.prog w = .ok (.func fn first cap) w := fun _ _ _ _ => rfl
  go_enter_defers Tryz.func28, Tryz.ntmps28
  go_wp2_with fail
  refine (hm _).mono ?_
  rintro e W0 ⟨rfl, rfl⟩
  go_wp2_with fail
  have BX : Below w.heap.size w ((((w.alloc (.cells #[.int .i64 k, .int .i64 s, .int .u64 m0, .int .u64 m1, .int .u64 m2] 26)).alloc (.cells #[.slice none 0 0] 22)).alloc (.cells #[.slice none 0 0] 29)).alloc (.cells #[.bool false] 4)) :=
    Below.next (Below.next (Below.next (below_alloc _ _) (below_alloc _ _)) (below_alloc _ _)) (below_alloc _ _)
  refine (copied_calls a cap d _ (H.out.1.keep BX) hsz).mono ?_
  rintro e w1 ⟨v, rfl, b, c2, rfl, hb1, hb2, hcap, hH, hbel⟩
  simp only [World.size_alloc] at hb1 hbel
  have hsz1 : w.heap.size + 4 ≤ w1.heap.size := by have := hbel.size; simpa using this
  obtain ⟨hb0, hb10, hb11, hb12⟩ := boxes4 hbel
  have k0 := cell_at (i := 0) hb0 rfl
  have k1 := cell_at (i := 1) hb0 rfl
  have k2 := cell_at (i := 2) hb0 rfl
  have k3 := cell_at (i := 3) hb0 rfl
  have k4 := cell_at (i := 4) hb0 rfl
  have c10 := cell_at (i := 0) hb10 rfl
  have f10 := frozen_at (i := 0) hb10
  have c11 := cell_at (i := 0) hb11 rfl
  have f11 := frozen_at (i := 0) hb11
  have c12 := cell_at (i := 0) hb12 rfl
  have f12 := frozen_at (i := 0) hb12
  clear hb0 hb10 hb11 hb12
  have B1 : Aside (Below w.heap.size w w1) := BX.trans (hbel.mono (by omega))
  obtain ⟨W, hW⟩ : ∃ W, W = w1.setCell ⟨w.heap.size + 1, 0, none⟩ (.slice (some ⟨b, 0, none⟩) d.size c2) := ⟨_, rfl⟩
  have szW : W.heap.size = w1.heap.size := by rw [hW]; simp
  have HW : Holds2 W b 0 d := by rw [hW]; exact Holds2_of_block (Below.heap_setCell _ _ _ _ (by dsimp only; omega)) hH
  have BW : Aside (Below w.heap.size w W) := by show Below _ _ _; rw [hW]; exact B1.out.setCell (by dsimp only; omega) _
  have hC := hB.out W b c2 (by omega) HW (H.out.2.keep BW.out)
  have d10 : W.cell? ⟨w.heap.size + 1, 0, none⟩ = some (.slice (some ⟨b, 0, none⟩) d.size c2) := by rw [hW]; exact World.cell?_setCell_same _ _ _ c10
  have e10 : W.frozen? ⟨w.heap.size + 1, 0, none⟩ = false := by rw [hW, World.frozen?_setCell]; exact f10
  have d11 : W.cell? ⟨w.heap.size + 1 + 1, 0, none⟩ = some (.slice none 0 0) := by rw [hW, World.cell?_of_block (Below.heap_setCell _ _ _ _ (by dsimp only; omega))]; exact c11
  have e11 : W.frozen? ⟨w.heap.size + 1 + 1, 0, none⟩ = false := by rw [hW, World.frozen?_of_block (Below.heap_setCell _ _ _ _ (by dsimp only; omega))]; exact f11
  have d12 : W.cell? ⟨w.heap.size + 1 + 1 + 1, 0, none⟩ = some (.bool false) := by rw [hW, World.cell?_of_block (Below.heap_setCell _ _ _ _ (by dsimp only; omega))]; exact c12
  have e12 : W.frozen? ⟨w.heap.size + 1 + 1 + 1, 0, none⟩ = false := by rw [hW, World.frozen?_of_block (Below.heap_setCell _ _ _ _ (by dsimp only; omega))]; exact f12
  clear HW hH hbel BX B1 H hB
  rw [hW] at hC
  go_wp2_with fail
  refine hC.mono ?_
  rintro e W2 ⟨_, rfl, S2, rn, rcap, rfl, hrn, hrb⟩
  rw [← hW] at S2 hrb
  have g2 := S2.grown
  have sz2 := g2.size
  have p10 := (kept_cell g2 (p := ⟨w.heap.size + 1, 0, none⟩) (by dsimp only; omega) (by simp; omega)).trans d10
  have r10 := (kept_frozen g2 (p := ⟨w.heap.size + 1, 0, none⟩) (by dsimp only; omega) (by simp; omega)).trans e10
  have p11 := (kept_cell g2 (p := ⟨w.heap.size + 1 + 1, 0, none⟩) (by dsimp only; omega) (by simp; omega)).trans d11
  have r11 := (kept_frozen g2 (p := ⟨w.heap.size + 1 + 1, 0, none⟩) (by dsimp only; omega) (by simp; omega)).trans e11
  have p12 := (kept_cell g2 (p := ⟨w.heap.size + 1 + 1 + 1, 0, none⟩) (by dsimp only; omega) (by simp; omega)).trans d12
  have r12 := (kept_frozen g2 (p := ⟨w.heap.size + 1 + 1 + 1, 0, none⟩) (by dsimp only; omega) (by simp; omega)).trans e12
  have B2 : Aside (Below w.heap.size w W2) := below_grownBy BW.out g2 (by omega) (by omega)
  have N2 : Aside (RdN W2 rn nums ∧ (∀ blk off, rn = some ⟨blk, off, none⟩ → 0 < nums.size → W.heap.size ≤ blk) ∧ Holds2 W2 b 0 d' ∧ b < W2.heap.size ∧ w.heap.size + 4 ≤ W.heap.size) := ⟨hrn, hrb, S2.holds, S2.lt, by omega⟩
  clear S2 hrn hrb g2 d10 e10 d11 e11 d12 e12 c10 f10 c11 f11 c12 f12 k0 k1 k2 k3 k4 hC hW BW
  go_wp2_with fail
  obtain ⟨V, hV⟩ : ∃ V, V = W2.setCell ⟨w.heap.size + 1 + 1, 0, none⟩ (.slice rn nums.size rcap) := ⟨_, rfl⟩
  rw [← hV]
  have q10 : V.cell? ⟨w.heap.size + 1, 0, none⟩ = some (.slice (some ⟨b, 0, none⟩) d.size c2) := by rw [hV, World.cell?_of_block (Below.heap_setCell _ _ _ _ (by dsimp only; omega))]; exact p10
  have s10 : V.frozen? ⟨w.heap.size + 1, 0, none⟩ = false := by rw [hV, World.frozen?_setCell]; exact r10
  have q11 : V.cell? ⟨w.heap.size + 1 + 1, 0, none⟩ = some (.slice rn nums.size rcap) := by rw [hV]; exact World.cell?_setCell_same _ _ _ p11
  have s11 : V.frozen? ⟨w.heap.size + 1 + 1, 0, none⟩ = false := by rw [hV, World.frozen?_setCell]; exact r11
  have q12 : V.cell? ⟨w.heap.size + 1 + 1 + 1, 0, none⟩ = some (.bool false) := by rw [hV, World.cell?_of_block (Below.heap_setCell _ _ _ _ (by dsimp only; omega))]; exact p12
  have s12 : V.frozen? ⟨w.heap.size + 1 + 1 + 1, 0, none⟩ = false := by rw [hV, World.frozen?_setCell]; exact r12
  have szV : V.heap.size = W2.heap.size := by rw [hV]; simp
  have BV : Aside (Below w.heap.size w V) := by show Below _ _ _; rw [hV]; exact B2.out.setCell (by dsimp only; omega) _
  have NV : Aside (RdN V rn nums ∧ (∀ blk off, rn = some ⟨blk, off, none⟩ → 0 < nums.size → w.heap.size + 4 ≤ blk) ∧ Holds2 V b 0 d' ∧ b < V.heap.size) := by
    show _ ∧ _ ∧ _ ∧ _
    obtain ⟨n1, n2, n3, n4, n5⟩ := N2.out
    refine ⟨fun h0 => ?_, fun blk off e h0 => by have := n2 blk off e h0; omega, by rw [hV]; exact Holds2_of_block (Below.heap_setCell _ _ _ _ (by dsimp only; omega)) n3, by omega⟩
    obtain ⟨blk, off, e, hl, hc⟩ := n1 h0
    have := n2 blk off e h0
    exact ⟨blk, off, e, by omega, fun i hi => by rw [hV, World.cell?_of_block (Below.heap_setCell _ _ _ _ (by dsimp only; omega))]; exact hc i hi⟩
  clear p10 r10 p11 r11 p12 r12 N2 B2 hV
  go_region
  obtain ⟨X, hX⟩ : ∃ X, X = (((V.setCell ⟨w.heap.size + 1, 0, none⟩ (.slice (some ⟨b, 0, none⟩) d.size c2)).setCell ⟨w.heap.size + 1 + 1, 0, none⟩ (.slice rn nums.size rcap)).setCell ⟨w.heap.size + 1 + 1 + 1, 0, none⟩ (.bool true)).drew := ⟨_, rfl⟩
  rw [← hX]
  have hblk : ∀ k, k ≠ w.heap.size + 1 → k ≠ w.heap.size + 1 + 1 → k ≠ w.heap.size + 1 + 1 + 1 → X.heap[k]? = V.heap[k]? := fun k h1 h2 h3 => by
    rw [hX]
    exact (Below.heap_setCell _ _ _ _ h3).trans ((Below.heap_setCell _ _ _ _ h2).trans (Below.heap_setCell _ _ _ _ h1))
  have x10 : X.cell? ⟨w.heap.size + 1, 0, none⟩ = some (.slice (some ⟨b, 0, none⟩) d.size c2) := by
    rw [hX]
    refine Eq.trans (World.cell?_of_block (Below.heap_setCell _ _ _ _ (by dsimp only; omega))) (Eq.trans (World.cell?_of_block (Below.heap_setCell _ _ _ _ (by dsimp only; omega))) (World.cell?_setCell_same _ _ _ q10))
  have x11 : X.cell? ⟨w.heap.size + 1 + 1, 0, none⟩ = some (.slice rn nums.size rcap) := by
    rw [hX]
    refine Eq.trans (World.cell?_of_block (Below.heap_setCell _ _ _ _ (by dsimp only; omega))) (World.cell?_setCell_same _ _ (.slice rn nums.size rcap) (u := .slice rn nums.size rcap) ?_)
    exact Eq.trans (World.cell?_of_block (Below.heap_setCell _ _ _ _ (by dsimp only; omega))) q11
  have x12 : X.cell? ⟨w.heap.size + 1 + 1 + 1, 0, none⟩ = some (.bool true) := by
    rw [hX]
    refine World.cell?_setCell_same _ _ _ (u := .bool false) ?_
    exact Eq.trans (World.cell?_of_block (Below.heap_setCell _ _ _ _ (by dsimp only; omega))) (Eq.trans (World.cell?_of_block (Below.heap_setCell _ _ _ _ (by dsimp only; omega))) q12)
  have szX : X.heap.size = V.heap.size := by rw [hX]; simp
  have BX : Aside (Below w.heap.size w X) := by show Below _ _ _; rw [hX]; exact (((BV.out.setCell (by dsimp only; omega) _).setCell (by dsimp only; omega) _).setCell (by dsimp only; omega) _).drew
  have NX : Aside (RdN X rn nums ∧ Holds2 X b 0 d' ∧ b < X.heap.size) := by
    show _ ∧ _ ∧ _
    obtain ⟨n1, n2, n3, n4⟩ := NV.out
    refine ⟨fun h0 => ?_, Holds2_of_block (hblk b (by omega) (by omega) (by omega)) n3, by omega⟩
    obtain ⟨blk, off, e, hl, hc⟩ := n1 h0
    have := n2 blk off e h0
    exact ⟨blk, off, e, by omega, fun i hi => (World.cell?_of_block (hblk blk (by omega) (by omega) (by omega))).trans (hc i hi)⟩
  clear q10 s10 q11 s11 q12 s12 NV BV hX hblk
  go_wp2_with fail
  refine leaves_cons (f := 39) (args := #[.pointer (some ⟨w.heap.size + 1 + 1 + 1, 0, none⟩)]) (by simp) (by simp [go_sem]) ?_
  refine (guarded_idle _ _).mono ?_
  rintro e u' w'' ⟨rfl, rfl, rfl⟩
  refine leaves_cons (f := 38) (args := #[.pointer (some ⟨w.heap.size + 1 + 1 + 1, 0, none⟩), .pointer (some ⟨w.heap.size + 1, 0, none⟩), .pointer (some ⟨w.heap.size + 1 + 1, 0, none⟩)]) (by simp [settle]) (by simp [go_sem]) ?_
  refine (inner1_idle _ _ _ _ _ x12).mono ?_
  rintro e u' w'' ⟨rfl, rfl, rfl⟩
  simp [Leaves, settle, results, Tryz.results28, go_sem, x10, x11, x12]
  obtain ⟨n1, n2, n3⟩ := NX.out
  have hd := D.out
  exact ⟨b, c2, rn, rcap, by rw [hd], by omega, n3, by rw [hd]; exact hcap, n2, n1, BX.out⟩
end Go.Proofs.YtglgmkikegbchaaGreat

/- What the laws of one inner function have in common: Ready where nothing is asked; the numbers of a function; Inner, whatever the text. -/
namespace Go.Proofs.YtglgmkikegbchaaGreat
open Go.RowKit Go.Sort

set_option maxHeartbeats 4000000 in
set_option maxRecDepth 1000000 in
theorem ready_plain (f : Int) (h1 : f ≠ 3) (h2 : f ≠ 6) (h3 : f ≠ 1) (h4 : f ≠ 5) (h5 : f ≠ 15) (a na : Option Addr) (n cap k ncap : Nat) (o : Ordr) (w : World) :
    Calls Tryz.prog 34 #[.int .i64 f, .slice a n cap, vOrd o, .slice na k ncap] w fun e w' => e = .returned (.bool true) ∧ Below w.heap.size w w' := by
  obtain ⟨k, s, m0, m1, m2⟩ := o
  have B0 : Aside (Below w.heap.size w (w.alloc (.cells #[.int .i64 k, .int .i64 s, .int .u64 m0, .int .u64 m1, .int .u64 m2] 26))) := below_alloc _ _
  go_enter Tryz.func34, Tryz.ntmps34
  go_wp2_with fail
  go_ret
  exact ⟨rfl, B0.out⟩

theorem bare_swp (ks : Array Int) (i j : Nat) (hi : i < ks.size) (hj : j < ks.size) : bare (swp ks i j) = swp (bare ks) i j := by
  unfold swp bare
  rw [Array.map_setIfInBounds, Array.map_setIfInBounds]
  have e : ∀ k, k < ks.size → (ks.map fun k => ((k, 0) : It))[k]! = (ks[k]!, 0) := fun k hk => by
    rw [getElem!_pos _ k (by simpa using hk), getElem!_pos ks k hk]; simp
  rw [e i hi, e j hj]

/-- A list without tags is one of keys alone. -/
theorem bare_of_untag (d : Array It) (h : d = (untag d.toList).toArray) : d = bare (d.map (·.1)) := by
  have e : (untag d.toList).toArray = bare (d.map (·.1)) := by
    unfold untag bare
    rw [Array.map_map]
    apply Array.ext'
    simp
  exact h.trans e

/-- Inner, whatever the text: out of the three families' contracts. -/
theorem inner_any (t f : Int) (a : Option Addr) (cap : Nat) (d d' : Array It) (o : Ordr) (na : Option Addr) (n ncap : Nat) (ns nums : Array Int) (w : World) (h : Rd2 w a d) (hN : RdN w na ns) (hsz : d.size ≤ 2000) (hd : d'.size = d.size) (ht : textB t d o = true)
    (hm : ∀ W, Calls Tryz.prog 40 #[.int .i64 f] W fun e w' => e = .returned (.int .i64 n) ∧ w' = W)
    (HC : ∀ (W : World) (b cap' : Nat), b < W.heap.size → Holds2 W b 0 d → RdN W na ns → Calls Tryz.prog 42 #[.int .i64 f, .slice (some ⟨b, 0, none⟩) d.size cap', .func (.func 43) #[vOrd o] #[], .slice na n ncap] W fun e W' => ∃ nv, e = .returned nv ∧ St2 W b 0 d' W' ∧ NumsAt W W' nv nums)
    (HF : ∀ (W : World) (b cap' : Nat), b < W.heap.size → Holds2 W b 0 d → RdN W na ns → Calls Tryz.prog 44 #[.int .i64 f, .agg #[.slice (some ⟨b, 0, none⟩) d.size cap', .int .i64 o.kind, .int .i64 o.shift, .int .u64 o.m0, .int .u64 o.m1, .int .u64 o.m2], .slice na n ncap] W fun e W' => ∃ nv, e = .returned nv ∧ St2 W b 0 d' W' ∧ NumsAt W W' nv nums)
    (HO : o.kind = 0 → ∀ ks : Array Int, d = bare ks → ∃ ks', d' = bare ks' ∧ ∀ (W : World) (b cap' : Nat), b < W.heap.size → Holds e64 W b 0 ks → RdN W na ns → Calls Tryz.prog 45 #[.int .i64 f, .slice (some ⟨b, 0, none⟩) ks.size cap', .slice na n ncap] W fun e W' => ∃ nv, e = .returned nv ∧ St1 e64 W b 0 ks' W' ∧ NumsAt W W' nv nums) :
    Calls Tryz.prog 28 #[.int .i64 t, .int .i64 f, .slice a d.size cap, vOrd o, .slice na n ncap] w (InnerTo w d' nums) := by
  unfold textB at ht
  by_cases h2 : t = 2
  · rw [if_pos h2] at ht
    simp only [Bool.and_eq_true, decide_eq_true_eq] at ht
    obtain ⟨hk, hu⟩ := ht
    have hb := bare_of_untag d hu
    obtain ⟨ks', e', H⟩ := HO hk _ hb
    generalize d.map (·.1) = ks at hb H
    subst hb
    subst e'
    subst h2
    rw [bare_size] at hsz
    rw [bare_size, bare_size] at hd
    rw [bare_size]
    exact inner_o f a cap ks ks' o hk na n ncap ns nums w h hN hsz hd hm H
  · rw [if_neg h2] at ht
    simp only [Bool.or_eq_true, decide_eq_true_eq] at ht
    rcases ht with rfl | rfl
    · exact inner_c f a cap d d' o na n ncap ns nums w h hN hsz hd hm HC
    · exact inner_f f a cap d d' o na n ncap ns nums w h hN hsz hd hm HF
end Go.Proofs.YtglgmkikegbchaaGreat

/- impl.many of each function (printed by gen/numok.py). -/
namespace Go.Proofs.YtglgmkikegbchaaGreat
open Go.RowKit Go.Sort

theorem many_0 (W : World) : Calls Tryz.prog 40 #[.int .i64 0] W fun e w' => e = .returned (.int .i64 ((2 : Nat) : Int)) ∧ w' = W := by
  go_enter Tryz.func40, Tryz.ntmps40
  go_wp2
  go_ret
  exact ⟨rfl, rfl⟩
theorem many_1 (W : World) : Calls Tryz.prog 40 #[.int .i64 1] W fun e w' => e = .returned (.int .i64 ((3 : Nat) : Int)) ∧ w' = W := by
  go_enter Tryz.func40, Tryz.ntmps40
  go_wp2
  go_ret
  exact ⟨rfl, rfl⟩
theorem many_2 (W : World) : Calls Tryz.prog 40 #[.int .i64 2] W fun e w' => e = .returned (.int .i64 ((2 : Nat) : Int)) ∧ w' = W := by
  go_enter Tryz.func40, Tryz.ntmps40
  go_wp2
  go_ret
  exact ⟨rfl, rfl⟩
theorem many_3 (W : World) : Calls Tryz.prog 40 #[.int .i64 3] W fun e w' => e = .returned (.int .i64 ((3 : Nat) : Int)) ∧ w' = W := by
  go_enter Tryz.func40, Tryz.ntmps40
  go_wp2
  go_ret
  exact ⟨rfl, rfl⟩
theorem many_4 (W : World) : Calls Tryz.prog 40 #[.int .i64 4] W fun e w' => e = .returned (.int .i64 ((3 : Nat) : Int)) ∧ w' = W := by
  go_enter Tryz.func40, Tryz.ntmps40
  go_wp2
  go_ret
  exact ⟨rfl, rfl⟩
theorem many_5 (W : World) : Calls Tryz.prog 40 #[.int .i64 5] W fun e w' => e = .returned (.int .i64 ((3 : Nat) : Int)) ∧ w' = W := by
  go_enter Tryz.func40, Tryz.ntmps40
  go_wp2
  go_ret
  exact ⟨rfl, rfl⟩
theorem many_6 (W : World) : Calls Tryz.prog 40 #[.int .i64 6] W fun e w' => e = .returned (.int .i64 ((2 : Nat) : Int)) ∧ w' = W := by
  go_enter Tryz.func40, Tryz.ntmps40
  go_wp2
  go_ret
  exact ⟨rfl, rfl⟩
theorem many_7 (W : World) : Calls Tryz.prog 40 #[.int .i64 7] W fun e w' => e = .returned (.int .i64 ((2 : Nat) : Int)) ∧ w' = W := by
  go_enter Tryz.func40, Tryz.ntmps40
  go_wp2
  go_ret
  exact ⟨rfl, rfl⟩
theorem many_8 (W : World) : Calls Tryz.prog 40 #[.int .i64 8] W fun e w' => e = .returned (.int .i64 ((2 : Nat) : Int)) ∧ w' = W := by
  go_enter Tryz.func40, Tryz.ntmps40
  go_wp2
  go_ret
  exact ⟨rfl, rfl⟩
theorem many_9 (W : World) : Calls Tryz.prog 40 #[.int .i64 9] W fun e w' => e = .returned (.int .i64 ((2 : Nat) : Int)) ∧ w' = W := by
  go_enter Tryz.func40, Tryz.ntmps40
  go_wp2
  go_ret
  exact ⟨rfl, rfl⟩
theorem many_10 (W : World) : Calls Tryz.prog 40 #[.int .i64 10] W fun e w' => e = .returned (.int .i64 ((3 : Nat) : Int)) ∧ w' = W := by
  go_enter Tryz.func40, Tryz.ntmps40
  go_wp2
  go_ret
  exact ⟨rfl, rfl⟩
theorem many_11 (W : World) : Calls Tryz.prog 40 #[.int .i64 11] W fun e w' => e = .returned (.int .i64 ((1 : Nat) : Int)) ∧ w' = W := by
  go_enter Tryz.func40, Tryz.ntmps40
  go_wp2
  go_ret
  exact ⟨rfl, rfl⟩
theorem many_12 (W : World) : Calls Tryz.prog 40 #[.int .i64 12] W fun e w' => e = .returned (.int .i64 ((2 : Nat) : Int)) ∧ w' = W := by
  go_enter Tryz.func40, Tryz.ntmps40
  go_wp2
  go_ret
  exact ⟨rfl, rfl⟩
theorem many_13 (W : World) : Calls Tryz.prog 40 #[.int .i64 13] W fun e w' => e = .returned (.int .i64 ((3 : Nat) : Int)) ∧ w' = W := by
  go_enter Tryz.func40, Tryz.ntmps40
  go_wp2
  go_ret
  exact ⟨rfl, rfl⟩
theorem many_14 (W : World) : Calls Tryz.prog 40 #[.int .i64 14] W fun e w' => e = .returned (.int .i64 ((1 : Nat) : Int)) ∧ w' = W := by
  go_enter Tryz.func40, Tryz.ntmps40
  go_wp2
  go_ret
  exact ⟨rfl, rfl⟩
theorem many_15 (W : World) : Calls Tryz.prog 40 #[.int .i64 15] W fun e w' => e = .returned (.int .i64 ((3 : Nat) : Int)) ∧ w' = W := by
  go_enter Tryz.func40, Tryz.ntmps40
  go_wp2
  go_ret
  exact ⟨rfl, rfl⟩
theorem many_16 (W : World) : Calls Tryz.prog 40 #[.int .i64 16] W fun e w' => e = .returned (.int .i64 ((3 : Nat) : Int)) ∧ w' = W := by
  go_enter Tryz.func40, Tryz.ntmps40
  go_wp2
  go_ret
  exact ⟨rfl, rfl⟩
end Go.Proofs.YtglgmkikegbchaaGreat

/- A list of elements that came in. -/
namespace Go.Proofs.YtglgmkikegbchaaGreat
open Go.ChangeShapes Go.WideShapes Go.ChangeAt Go.RowKit Go.Deep Go.Sort

theorem open_arg {H : Type} {enc : TypeId × Value → H} {W : World} {fuel : Nat} {a : Option Addr} {len cap : Nat} {x : DataW H × List MemPlace} (h : DataW.trod enc Tryz.prog W 0 (fun _ => true) true fuel 22 [.slice a len cap] = some x) :
    ∃ d : Array It, len = d.size ∧ Arg W a cap d ∧ inR d := by
  obtain ⟨d, hd, hr, hb, _⟩ := open_items h
  have hc : d.size ≤ cap ∧ (a = none → d.size = 0 ∧ cap = 0) := by
    rcases open_slice_pairs Tryz.underlying22 Tryz.underlying49 (by kernel_rfl) rfl rfl (by kernel_rfl) (by kernel_rfl) h with ⟨hc, _⟩ | ⟨a', len', cap', m, n, V0, V1, D0, D1, P0, P1, hc, _, hl, hm, hmm, _, hall⟩
    · simp only [List.cons.injEq, and_true, Value.slice.injEq] at hc
      obtain ⟨rfl, rfl, rfl⟩ := hc
      exact ⟨by omega, fun _ => ⟨hd, rfl⟩⟩
    · simp only [List.cons.injEq, and_true, Value.slice.injEq] at hc
      obtain ⟨rfl, rfl, rfl⟩ := hc
      exact ⟨by omega, fun h => by cases h⟩
  exact ⟨d, hd.symm, ⟨hr, hc.1, hc.2⟩, fun i hi => by
    obtain ⟨h1, h2, h3, h4⟩ := hb i (by omega)
    exact ⟨WalkArith.wf_i64 ⟨h1, h2⟩, WalkArith.wf_i64 ⟨h3, h4⟩⟩⟩
end Go.Proofs.YtglgmkikegbchaaGreat
