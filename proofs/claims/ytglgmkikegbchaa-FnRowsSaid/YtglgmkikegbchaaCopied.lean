/- copied makes a copy of a list. -/
import Derived.Test.YtglgmkikegbchaaWc0
import Derived.Deep.AppendSrc
namespace Go.Proofs.Ytglgmkikegbchaa
open Go.RowKit Go.Sort

/-- A slice of elements that is read: its address, its elements. (An empty one may lie anywhere.) -/
def Rd2 (w : World) (a : Option Addr) (d : Array It) : Prop := 0 < d.size → ∃ blk off, a = some ⟨blk, off, none⟩ ∧ blk < w.heap.size ∧ ∀ i, i < d.size →
  w.cell? ⟨blk, off + i * 2, none⟩ = some (.int .i64 d[i]!.1) ∧ w.cell? ⟨blk, off + i * 2 + 1, none⟩ = some (.int .i64 d[i]!.2)

theorem Rd2.below {B : Nat} {w w' : World} {a : Option Addr} {d : Array It} (h : Rd2 w a d) (hb : Below B w w') (hB : w.heap.size ≤ B) : Rd2 w' a d := fun h0 => by
  obtain ⟨blk, off, e, hl, hc⟩ := h h0
  exact ⟨blk, off, e, Nat.lt_of_lt_of_le hl hb.size, fun i hi => ⟨(hb.cell (p := ⟨blk, off + i * 2, none⟩) (Nat.lt_of_lt_of_le hl hB)).trans (hc i hi).1, (hb.cell (p := ⟨blk, off + i * 2 + 1, none⟩) (Nat.lt_of_lt_of_le hl hB)).trans (hc i hi).2⟩⟩
theorem Rd2.grownBy {row : Option Nat} {w w' : World} {a : Option Addr} {d : Array It} (h : Rd2 w a d) (hg : w.grownBy w' row) (hr : ∀ blk off, a = some ⟨blk, off, none⟩ → some blk ≠ row) : Rd2 w' a d := fun h0 => by
  obtain ⟨blk, off, e, hl, hc⟩ := h h0
  exact ⟨blk, off, e, Nat.lt_of_lt_of_le hl hg.size, fun i hi => ⟨hg.cell (hc i hi).1 (hr _ _ e), hg.cell (hc i hi).2 (hr _ _ e)⟩⟩

/-- The elements' cells. -/
def cells2 : List It → List Value
  | [] => []
  | x :: r => .int .i64 x.1 :: .int .i64 x.2 :: cells2 r
theorem cells2_length : ∀ l : List It, (cells2 l).length = l.length * 2
  | [] => rfl
  | x :: r => by simp [cells2, cells2_length r]; omega
theorem cells2_fst : ∀ (l : List It) (i : Nat), i < l.length → (cells2 l)[i * 2]? = some (.int .i64 l[i]!.1)
  | [], i, h => by simp at h
  | x :: r, 0, _ => by simp [cells2]
  | x :: r, i + 1, h => by
    rw [show (i + 1) * 2 = i * 2 + 1 + 1 by omega]
    have := cells2_fst r i (by simpa using h)
    simpa [cells2] using this
theorem cells2_snd : ∀ (l : List It) (i : Nat), i < l.length → (cells2 l)[i * 2 + 1]? = some (.int .i64 l[i]!.2)
  | [], i, h => by simp at h
  | x :: r, 0, _ => by simp [cells2]
  | x :: r, i + 1, h => by
    rw [show (i + 1) * 2 + 1 = i * 2 + 1 + 1 + 1 by omega]
    have := cells2_snd r i (by simpa using h)
    simpa [cells2] using this
theorem cells2_one : ∀ (l : List It), ∀ u ∈ cells2 l, u.oneCell' = true
  | [], u, h => by simp [cells2] at h
  | x :: r, u, h => by
    simp only [cells2, List.mem_cons] at h
    rcases h with rfl | rfl | h
    · rfl
    · rfl
    · exact cells2_one r u h
theorem cells2_all (l : List It) (j : Nat) (u : Value) (h : (cells2 l)[j]? = some u) : ∃ i, i < l.length ∧ (j = i * 2 ∧ u = .int .i64 l[i]!.1 ∨ j = i * 2 + 1 ∧ u = .int .i64 l[i]!.2) := by
  have hj : j < l.length * 2 := by
    rw [← cells2_length]
    exact (List.getElem?_eq_some_iff.1 h).1
  refine ⟨j / 2, by omega, ?_⟩
  rcases Nat.mod_two_eq_zero_or_one j with e | e
  · left
    have e1 : j = j / 2 * 2 := by omega
    rw [e1, cells2_fst l (j / 2) (by omega)] at h
    exact ⟨e1, (Option.some.inj h).symm⟩
  · right
    have e1 : j = j / 2 * 2 + 1 := by omega
    rw [e1, cells2_snd l (j / 2) (by omega)] at h
    exact ⟨e1, (Option.some.inj h).symm⟩

theorem toList_get! (d : Array It) (i : Nat) : d.toList[i]! = d[i]! := by
  by_cases h : i < d.size
  · rw [getElem!_pos d i h, getElem!_pos d.toList i (by simpa using h)]; simp
  · rw [getElem!_neg d i h, getElem!_neg d.toList i (by simpa using h)]

theorem Rd2.src {P : Program} {tx e' : TypeId} (hk : P.underlying tx = some (.slice e')) {w : World} {a : Option Addr} {d : Array It} (h : Rd2 w a d) (c : Nat) : Src P 2 tx (.slice a d.size c) d.size (cells2 d.toList) w := by
  by_cases h0 : 0 < d.size
  · obtain ⟨blk, off, rfl, _, hc⟩ := h h0
    refine Src.ofSlice w hk _ _ _ _ (by rw [cells2_length]; simp) (fun j u hu => ?_) (cells2_one _)
    obtain ⟨i, hi, ⟨rfl, rfl⟩ | ⟨rfl, rfl⟩⟩ := cells2_all _ _ _ hu
    · rw [Addr.add_lit, toList_get!]; exact (hc i (by simpa using hi)).1
    · rw [Addr.add_lit, toList_get!, ← Nat.add_assoc]; exact (hc i (by simpa using hi)).2
  · have e0 : d.size = 0 := by omega
    have e1 : d.toList = [] := List.eq_nil_of_length_eq_zero (by simpa using e0)
    rw [e0, e1]
    cases a with
    | none => exact Src.ofNil w hk c
    | some ad => exact Src.ofSlice w hk ad 0 c [] rfl (fun j u hu => by simp at hu) (fun u hu => by simp at hu)

theorem holds2_new (w : World) (d : Array It) (z : Array Value) (e : TypeId) : Holds2 (w.alloc (.cells ((cells2 d.toList).toArray ++ z) e)) w.heap.size 0 d := fun i hi => by
  have hl : i < d.toList.length := by simpa using hi
  have hb : (w.alloc (.cells ((cells2 d.toList).toArray ++ z) e)).heap[w.heap.size]? = some (.cells ((cells2 d.toList).toArray ++ z) e (0, 0)) := heap_alloc_new w _
  have c : ∀ k u, (cells2 d.toList)[k]? = some u → (w.alloc (.cells ((cells2 d.toList).toArray ++ z) e)).cell? ⟨w.heap.size, 0 + k, none⟩ = some u := fun k u hu => by
    have hk := (List.getElem?_eq_some_iff.1 hu).1
    simp only [World.cell?, hb, Nat.zero_add]
    rw [Array.getElem?_append_left (by simpa using hk)]
    simpa using hu
  have f : ∀ k, (w.alloc (.cells ((cells2 d.toList).toArray ++ z) e)).frozen? ⟨w.heap.size, k, none⟩ = false := fun k => by
    simp only [World.frozen?, hb]
    simp
  exact ⟨by have := c _ _ (cells2_fst d.toList i hl); rwa [toList_get!] at this, by have := c _ _ (cells2_snd d.toList i hl); rwa [toList_get!] at this, f _, f _⟩

/-- What copied gives: a slice of its own that holds the elements. -/
def CopiedTo (w : World) (d : Array It) (v : Value) (w' : World) : Prop :=
  ∃ b cap, v = .slice (some ⟨b, 0, none⟩) d.size cap ∧ w.heap.size ≤ b ∧ b < w'.heap.size ∧ d.size ≤ cap ∧ Holds2 w' b 0 d ∧ Below w.heap.size w w'

theorem append_copy {P : Program} {t ty e : TypeId} {i : TypeInfo} (ht : P.underlying t = some (.slice e)) (hi : P.info? e = some i) (hz : i.zero = some (.agg #[.int .i64 0, .int .i64 0])) (hsize : i.size = 2) (hby : i.bytes = 16)
    (w : World) (a : Option Addr) (cap : Nat) (d : Array It) (h : Rd2 w a d) (hsz : d.size ≤ 2000) (E : TypeId) :
    ∃ v w', (Builtin.append_ #[t, t] ty #[.slice (some ⟨w.heap.size, 0, none⟩) 0 0, .slice a d.size cap]).run P (w.alloc (.cells #[] E)) = .ok v w' ∧ CopiedTo w d v w' := by
  have hb0 : Below w.heap.size w (w.alloc (.cells #[] E)) := (Below.refl _ w).alloc (Nat.le_refl _) _
  have h' : Rd2 (w.alloc (.cells #[] E)) a d := h.below hb0 (Nat.le_refl _)
  have hs : Src P i.size t (.slice a d.size cap) d.size (cells2 d.toList) (w.alloc (.cells #[] E)) := by rw [hsize]; exact h'.src ht cap
  by_cases h0 : 0 < d.size
  · have hr := run_append_grow_src (P := P) (w.alloc (.cells #[] E)) t t ty e i _ ht hi hz (some ⟨w.heap.size, 0, none⟩) 0 0 []
      (run_firstCells_some _ _ _ _ _ _ _ (by simp) (fun j u hu => by simp at hu)) (.slice a d.size cap) d.size _ hs (by omega) (by omega) (growslice_fits (by omega) (by rw [hby]; omega))
    simp only [Nat.zero_add, List.nil_append] at hr
    refine ⟨_, _, hr, w.heap.size + 1, grownCap (w.alloc (.cells #[] E)) d.size 0 e, by simp, by omega, by simp, ?_, ?_, ?_⟩
    · have := grownCap_ge (w.alloc (.cells #[] E)) (0 + d.size) 0 e
      simpa using this
    · have := holds2_new (w.alloc (.cells #[] E)).drew d (Builtin.zeroCells (Value.agg #[.int .i64 0, .int .i64 0]).cells (grownCap (w.alloc (.cells #[] E)) d.size 0 e - d.size)) e
      simpa using this
    · exact (hb0.drew).alloc (by simp) _
  · have e0 : d.size = 0 := by omega
    have hr := run_append_room_src (P := P) (w.alloc (.cells #[] E)) t t ty e i ht hi w.heap.size 0 0 0 (.slice a d.size cap) d.size _ hs (by omega)
      (fun j hj => by rw [cells2_length] at hj; simp at hj; omega) (fun j hj => by rw [cells2_length] at hj; simp at hj; omega)
    have e1 : cells2 d.toList = [] := List.eq_nil_of_length_eq_zero (by rw [cells2_length]; simp; omega)
    rw [e1] at hr
    refine ⟨_, _, hr, w.heap.size, 0, by simp, Nat.le_refl _, by simp [World.setCells], by omega, fun k hk => by omega, hb0⟩

/-- An append whose run is known, met in the walk. -/
theorem wpList_append_eq {P : Program} {ops : Array Oper} {rest : List Oper} {o : Oper} {a : Act} {Q : Exit → Act → World → Prop} {w : World} (hgd : o.guard = none) (s x : Operand) (t : TypeId)
    (ho : o.op = .call { callee := .builtin .append, args := #[s, x], argTypes := #[t, t] }) (sv xv v : Value) (w' : World) (hs : a.eval s = sv) (hx : a.eval x = xv)
    (hr : (Builtin.append_ #[t, t] o.type #[sv, xv]).run P w = .ok v w') (h : wpList P ops Q rest (a.put o.dst v) w') : wpList P ops Q (o :: rest) a w :=
  wpList_plain hgd fun _ hK => by
    unfold Oper.wp execOp
    simp only [ho, resolve, invoke, builtin, Sem.run_bind, Sem.run_pure, Result.andThen_ok, List.map_toArray, List.map_cons, List.map_nil, hs, hx, hr]
    exact hK _ _ h

set_option maxHeartbeats 1000000 in
set_option maxRecDepth 100000 in
theorem copied_calls (a : Option Addr) (cap : Nat) (d : Array It) (w : World) (h : Rd2 w a d) (hsz : d.size ≤ 2000) :
    Calls Try.prog 34 #[.slice a d.size cap] w fun e w' => ∃ v, e = .returned v ∧ CopiedTo w d v w' := by
  obtain ⟨i0, hi, hz0, hz1, hz2⟩ := info_parts (show (Try.prog.info? 34).map (fun i => (i.zero, i.size, i.bytes)) = some (some (.agg #[.int .i64 0, .int .i64 0]), 2, 16) by kernel_rfl)
  have hap : Aside (∃ v w', (Builtin.append_ #[22, 22] 22 #[.slice (some ⟨w.heap.size, 0, none⟩) 0 0, .slice a d.size cap]).run Try.prog (w.alloc (.cells #[] 34)) = .ok v w' ∧ CopiedTo w d v w') :=
    append_copy (P := Try.prog) Try.underlying22 hi hz0 hz1 hz2 w a cap d h hsz 34
  clear h hi hz0 hz1 hz2
  go_enter Try.func34, Try.ntmps34
  go_wp2_with (at_builtin; obtain ⟨v, w', hr, hc⟩ := hap.out; refine wpList_append_eq rfl _ _ _ rfl _ _ _ _ rfl rfl hr ?_; have HC : Aside _ := hc; clear hc hr)
  go_ret
  exact ⟨v, rfl, HC.out⟩
end Go.Proofs.Ytglgmkikegbchaa
