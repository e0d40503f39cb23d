/- slices.Clone, Index, Contains, Delete, Insert at []int, over rows. -/
import Derived.Test.YtglgmkikegbchaaaSlices
namespace Go.Proofs.Ytglgmkikegbchaa
open Go.RowKit

section
variable {w w' : World} {v : Value} {r l1 l2 : List Int} {base n : Nat}

theorem getD_of {r : List Int} {j : Nat} (hj : j < r.length) : r[j]? = some (r.getD j 0) := by simp [List.getD, hj]
theorem RowI.shelf {a : Option Addr} {c : Nat} (h : RowI 3 w (.slice a r.length c) r) (h0 : 0 < r.length) : ∃ b off, a = some ⟨b, off, none⟩ ∧ ∀ j, j < r.length → w.cell? ⟨b, off + j, none⟩ = some (.int .i64 (r.getD j 0)) := by
  obtain ⟨b, off, rfl, _, hc⟩ := h.cell h0
  exact ⟨b, off, rfl, fun j hj => hc j _ (getD_of hj)⟩

theorem clone_calls (h : RowI 3 w v r) (hl : r.length ≤ 1000) :
    Calls Try.prog 59 #[v] w fun e w' => ∃ v', e = .returned v' ∧ w'.ownsRow w.heap.size 3 1 v' r.length (r.map (Value.int .i64)) ∧ Below w.heap.size w w' := by
  obtain ⟨a, c, rfl⟩ := h.form
  by_cases h0 : 0 < r.length
  · obtain ⟨b, off, rfl, hc⟩ := h.shelf h0
    exact (Any.slices_Clone_int laysn15 b off r.length c r w (Nat.le_refl _) (by omega) hc).mono (fun e w' ⟨v', h1, h2, _, h4⟩ => ⟨v', h1, by rw [List.take_length] at h2; exact h2, h4⟩)
  · have h1 : r = [] := List.eq_nil_of_length_eq_zero (by omega)
    subst h1
    cases a with
    | none => exact (Any.slices_Clone_int_nil laysn15 0 c w).mono (fun e w' ⟨h1, h2⟩ => ⟨_, h1, World.ownsRow_nil _ _ _ _, by rw [h2]; exact Below.refl _ _⟩)
    | some a => exact (Any.slices_Clone_int_zero laysn15 a c w).mono (fun e w' ⟨v', h1, h2, _, h4⟩ => ⟨v', h1, h2, h4⟩)

theorem index_calls (h : RowI 3 w v r) (hl : r.length ≤ 1000) (x : Int) :
    Calls Try.prog 83 #[v, .int .i64 x] w fun e w' => e = .returned (.int .i64 (Lib.idxOf r x)) ∧ w' = w := by
  obtain ⟨a, c, rfl⟩ := h.form
  by_cases h0 : 0 < r.length
  · obtain ⟨b, off, rfl, hc⟩ := h.shelf h0
    have := Any.slices_Index_int laysn108 b off r.length c r x w (Nat.le_refl _) (by omega) hc
    rwa [List.take_length] at this
  · have h1 : r = [] := List.eq_nil_of_length_eq_zero (by omega)
    subst h1
    exact Any.slices_Index_int_empty laysn108 a c x w

theorem contains_calls (h : RowI 3 w v r) (hl : r.length ≤ 1000) (x : Int) :
    Calls Try.prog 87 #[v, .int .i64 x] w fun e w' => e = .returned (.bool (r.contains x)) ∧ w' = w := by
  obtain ⟨a, c, rfl⟩ := h.form
  by_cases h0 : 0 < r.length
  · obtain ⟨b, off, rfl, hc⟩ := h.shelf h0
    have := Any.slices_Contains_int laysn107 b off r.length c r x w (Nat.le_refl _) (by omega) hc
    rwa [List.take_length] at this
  · have h1 : r = [] := List.eq_nil_of_length_eq_zero (by omega)
    subst h1
    exact Any.slices_Contains_int_empty laysn107 a c x w

/-- An own row by its block and its cells. -/
theorem own_cells {g cap : Nat} {cur : Array Value} {xs : List Value} (hb : base ≤ g) (hg : w.heap[g]? = some (.cells cur 3 (0, 0))) (hl : xs.length ≤ cap) (hm : cap ≤ maxLen) (hs : cur.size = cap) (hc : ∀ (j : Nat) (u : Value), xs[j]? = some u → cur[j]? = some u) :
    w.ownsRow base 3 1 (.slice (some ⟨g, 0, none⟩) xs.length cap) xs.length xs := by
  refine ⟨by simp, .inr ⟨g, cap, cur, rfl, hb, hg, hl, hm, by simpa using hs, ?_⟩⟩
  rw [Nat.mul_one]
  apply List.ext_getElem?
  intro j
  by_cases hj : j < xs.length
  · rw [List.getElem?_take, if_pos hj]
    have := hc j xs[j] (List.getElem?_eq_getElem hj)
    rw [Array.getElem?_toList, this, List.getElem?_eq_getElem hj]
  · rw [List.getElem?_take, if_neg hj, List.getElem?_eq_none (by omega)]

theorem delete_calls {a : Int} (h : w.ownsRow base 3 1 v n ((l1 ++ a :: l2).map (Value.int .i64))) (hl : (l1 ++ a :: l2).length ≤ 1000) :
    Calls Try.prog 85 #[v, .int .i64 (l1.length : Nat), .int .i64 ((l1.length + 1 : Nat) : Int)] w fun e w' => ∃ v', e = .returned v' ∧ w'.ownsRow base 3 1 v' (l1 ++ l2).length ((l1 ++ l2).map (Value.int .i64)) ∧ w.grownBy w' v.ownBlock := by
  have hn := (rowI_own h).2
  have h0 : 0 < n := by rw [hn]; simp; omega
  rcases h.2 with ⟨_, h1⟩ | ⟨g, cap, cur, rfl, hb, hg, hnc, hcm, hcs, htk⟩
  · omega
  · subst hn
    have hcs' : cur.size = cap := by simpa using hcs
    have hcur : ∀ (j : Nat) (x : Int), (l1 ++ a :: l2)[j]? = some x → cur[j]? = some (Value.int .i64 x) := fun j x hj => by
      have e1 : ((l1 ++ a :: l2).map (Value.int .i64))[j]? = some (Value.int .i64 x) := by rw [List.getElem?_map, hj]; rfl
      rw [← htk, List.getElem?_take] at e1
      split at e1
      · simpa using e1
      · cases e1
    have hH : Sort.Holds (Value.int .i64) w g 0 (l1 ++ a :: l2).toArray := fun j hj => by
      have hj' : j < (l1 ++ a :: l2).length := by simpa using hj
      rw [Nat.zero_add]
      refine ⟨?_, frozen_of_row _ _ _ _ _ hg⟩
      rw [cell_of_row _ _ _ _ _ _ hg, hcur j _ (List.getElem?_eq_getElem hj')]
      congr 2
      rw [getElem!_pos (l1 ++ a :: l2).toArray j hj]
      simp
    have hmax : cap ≤ 9223372036854775807 := by unfold maxLen at hcm; omega
    refine (Any.slices_Delete_int laysn23 g 0 cap l1.length (l1.length + 1) (l1 ++ a :: l2) w hH hnc hmax (by omega) (by simp)).mono ?_
    rintro e w' ⟨rfl, q, rfl⟩
    have hd : ((l1 ++ a :: l2).take l1.length ++ (l1 ++ a :: l2).drop (l1.length + 1) ++ List.replicate (l1.length + 1 - l1.length) 0) = l1 ++ l2 ++ [0] := by
      rw [List.take_left, show l1.length + 1 - l1.length = 1 by omega, List.replicate_one]
      congr 2
      rw [show l1 ++ a :: l2 = (l1 ++ [a]) ++ l2 by simp, show l1.length + 1 = (l1 ++ [a]).length by simp, List.drop_left]
    have hlen : (l1 ++ a :: l2).length - (l1.length + 1 - l1.length) = ((l1 ++ l2).map (Value.int .i64)).length := by simp <;> omega
    have hgq : (Sort.ahead w q).heap[g]? = some (.cells cur 3 (0, 0)) := hg
    have hheap : (Sort.putRow (Value.int .i64) (Sort.ahead w q) g 0 (l1 ++ l2 ++ [0]).toArray).heap[g]? = some (.cells (Sort.putCells (Value.int .i64) 0 (l1 ++ l2 ++ [0]).toArray cur) 3 (0, 0)) := by
      simp only [Sort.putRow, Sort.mapBlock, Array.getElem?_modify, if_true, hgq]
      first | done | rfl
    refine ⟨_, rfl, ?_, ⟨rfl, rfl, rfl, by simp [Sort.ahead], fun k hk hk' => ?_⟩⟩
    · rw [hd, hlen]
      have := own_cells (base := base) (cap := cap) (xs := (l1 ++ l2).map (Value.int .i64)) hb hheap (by simp at hnc ⊢; omega) hcm (by simp [Sort.putCells, hcs']) (fun j u hj => by
        have hj' : j < (l1 ++ l2).length := by have := (List.getElem?_eq_some_iff.1 hj).1; simpa using this
        rw [List.getElem?_map, List.getElem?_eq_getElem hj'] at hj
        simp only [Option.map_some, Option.some.injEq] at hj
        subst hj
        have hjc : j < cur.size := by rw [hcs']; simp at hnc hj'; omega
        simp only [Sort.putCells, Array.getElem?_mapIdx, Array.getElem?_eq_getElem hjc, Option.map_some]
        rw [if_pos ⟨Nat.zero_le _, by simp at hj' ⊢; omega⟩, Nat.sub_zero]
        congr 2
        rw [getElem!_pos (l1 ++ l2 ++ ([0] : List Int)).toArray j (by simp at hj' ⊢; omega)]
        simp only [List.getElem_toArray]
        rw [List.getElem_append_left hj'])
      rw [List.length_map] at this ⊢
      exact this
    · rw [hd]
      simp only [Sort.putRow, Sort.mapBlock, Array.getElem?_modify]
      rw [if_neg (fun e => hk' (by simp [Value.ownBlock, e]))]
      rfl

theorem setCells_heap {b : Nat} {t : TypeId} : ∀ (vs : List Value) (o : Nat) (w : World) (cur : Array Value), w.heap[b]? = some (.cells cur t (0, 0)) → ∃ cur', (w.setCells b o vs).heap[b]? = some (.cells cur' t (0, 0)) ∧ cur'.size = cur.size
  | [], _, w, cur, h => ⟨cur, h, rfl⟩
  | v :: vs, o, w, cur, h => by
    obtain ⟨cur', h1, h2⟩ := setCells_heap vs (o + 1) (w.setCell ⟨b, o, none⟩ v) _ (heap_setCell_same w b o cur t v h)
    exact ⟨cur', h1, by simpa using h2⟩
theorem setCells_other {b k : Nat} (hk : k ≠ b) : ∀ (vs : List Value) (o : Nat) (w : World), (w.setCells b o vs).heap[k]? = w.heap[k]?
  | [], _, _ => rfl
  | v :: vs, o, w => by rw [World.setCells, setCells_other hk vs, heap_setCell_other w _ k v hk]
theorem setCells_same {b : Nat} : ∀ (vs : List Value) (o : Nat) (w : World), (w.setCells b o vs).os = w.os ∧ (w.setCells b o vs).tape = w.tape ∧ (w.setCells b o vs).output = w.output ∧ (w.setCells b o vs).heap.size = w.heap.size
  | [], _, _ => ⟨rfl, rfl, rfl, rfl⟩
  | v :: vs, o, w => by
    obtain ⟨h1, h2, h3, h4⟩ := setCells_same (b := b) vs (o + 1) (w.setCell ⟨b, o, none⟩ v)
    exact ⟨h1, h2, h3, h4.trans (by simp [World.setCell])⟩
theorem setCells_below {b : Nat} {w0 : World} (h : Below base w0 w) (hb : base ≤ b) (vs : List Value) (o : Nat) : Below base w0 (w.setCells b o vs) := by
  obtain ⟨h1, h2, h3, h4⟩ := setCells_same (b := b) vs o w
  exact ⟨h1.trans h.os, h2.trans h.tape, h3.trans h.output, by rw [h4]; exact h.size, fun k hk => (setCells_other (by omega) vs o w).trans (h.block k hk)⟩

theorem rowI_cells {g n c : Nat} {cur : Array Value} (hg : w.heap[g]? = some (.cells cur 3 (0, 0))) (hn : n = r.length) (hc : ∀ (j : Nat) (x : Int), r[j]? = some x → w.cell? ⟨g, j, none⟩ = some (.int .i64 x)) : RowI 3 w (.slice (some ⟨g, 0, none⟩) n c) r :=
  ⟨_, c, by rw [hn], (fun h => by cases h), fun _ => ⟨g, 0, cur, rfl, hg, fun j x hj => by rw [Nat.zero_add, ← cell_of_row w g j _ _ _ hg]; exact hc j x hj⟩⟩

theorem insert_get {i j : Nat} {x u : Int} (hi : i ≤ r.length) (hj : (r.take i ++ x :: r.drop i)[j]? = some u) : (j < i ∧ r[j]? = some u) ∨ (j = i ∧ u = x) ∨ (i < j ∧ r[j - 1]? = some u) := by
  by_cases h1 : j < i
  · rw [List.getElem?_append_left (by simp; omega), List.getElem?_take, if_pos h1] at hj
    exact Or.inl ⟨h1, hj⟩
  · rw [List.getElem?_append_right (by simp; omega)] at hj
    have hl : (r.take i).length = i := by simp; omega
    rw [hl] at hj
    by_cases h2 : j = i
    · subst h2
      simp at hj
      exact Or.inr (Or.inl ⟨rfl, hj.symm⟩)
    · rw [show j - i = (j - i - 1) + 1 by omega, List.getElem?_cons_succ, List.getElem?_drop] at hj
      exact Or.inr (Or.inr ⟨by omega, by rw [← hj]; congr 1; omega⟩)

theorem insert_calls2 {i vb : Nat} {x : Int} {vcur : Array Value} (h : w.ownsRow base 3 1 v n (r.map (Value.int .i64))) (h0 : r ≠ []) (hl : r.length ≤ 1000) (hi : i ≤ r.length) (hv : w.heap[vb]? = some (.cells vcur 3 (0, 0))) (hv0 : vcur[0]? = some (.int .i64 x)) (hbw : base ≤ w.heap.size) (hne : v.ownBlock ≠ some vb) :
    Calls Try.prog 86 #[v, .int .i64 i, .slice (some ⟨vb, 0, none⟩) 1 1] w fun e w' => ∃ v', e = .returned v' ∧ RowI 3 w' v' (r.take i ++ x :: r.drop i) ∧ Below base w w' := by
  have hn := (rowI_own h).2
  have hr0 : 0 < r.length := List.length_pos_iff.2 h0
  rcases h.2 with ⟨_, h1⟩ | ⟨g, cap, cur, rfl, hb, hg, hnc, hcm, hcs, htk⟩
  · omega
  subst hn
  have hcs' : cur.size = cap := by simpa using hcs
  have hgv : vb ≠ g := fun e => hne (by simp [Value.ownBlock, e])
  have hcc : ∀ (j : Nat) (u : Value), (r.map (Value.int .i64))[j]? = some u → w.cell? ⟨g, j, none⟩ = some u := fun j u hj => by
    have := h.cells (g := g) rfl j u hj
    rwa [Addr.add_lit, Nat.zero_add] at this
  have hcr : ∀ (j : Nat) (u : Int), r[j]? = some u → w.cell? ⟨g, j, none⟩ = some (.int .i64 u) := fun j u hj => hcc j _ (by rw [List.getElem?_map, hj]; rfl)
  have hsome : ∀ j, j < cap → (w.cell? ⟨g, j, none⟩).isSome = true := fun j hj => by
    rw [cell_of_row _ _ _ _ _ _ hg, Array.getElem?_eq_getElem (by omega)]; rfl
  have hfz : ∀ j, w.frozen? ⟨g, j, none⟩ = false := fun j => frozen_of_row _ _ _ _ _ hg
  have hvs : ∀ (j : Nat) (u : Value), [Value.int .i64 x][j]? = some u → w.cell? ⟨vb, 0 + j, none⟩ = some u := fun j u hj => by
    cases j with
    | zero => simp at hj; subst hj; rw [cell_of_row _ _ _ _ _ _ hv]; exact hv0
    | succ j => simp at hj
  have h1c : ∀ u ∈ r.map (Value.int .i64), u.oneCell' = true := fun u hu => by obtain ⟨y, _, rfl⟩ := List.mem_map.1 hu; rfl
  have h1v : ∀ u ∈ [Value.int .i64 x], u.oneCell' = true := fun u hu => by simp at hu; subst hu; rfl
  have hdl : ∀ k, ((r.map (Value.int .i64)).drop i)[k]? = (r[i + k]?).map (Value.int .i64) := fun k => by rw [List.getElem?_drop, List.getElem?_map]
  have hlen' : (r.take i ++ x :: r.drop i).length = r.length + 1 := by simp; omega
  have hBr : Below base w w := Below.refl _ _
  by_cases hend : i < r.length
  · by_cases hroom : r.length + 1 ≤ cap
    · refine (Any2.slices_Insert_int_shift laysn21 g 0 r.length cap i vb 0 1 1 (r.map (Value.int .i64)) [.int .i64 x] w hend (by omega) hroom (by unfold maxLen at hcm; omega) hgv (by simp) rfl (fun j u hj => by rw [Nat.zero_add]; exact hcc j u hj) (fun j hj => by rw [Nat.zero_add]; exact hsome j (by omega)) (fun j _ => hfz _) hvs h1c h1v 3 3 vcur.size cur.size (by simp [World.shape?, hv]) (by simp [World.shape?, hg]) (by omega) (frozen_of_row _ _ _ _ _ hv) (frozen_of_row _ _ _ _ _ hv)).mono ?_
      rintro e w' ⟨rfl, rfl⟩
      have hgd : w.drew.heap[g]? = some (.cells cur 3 (0, 0)) := hg
      obtain ⟨cur1, hg1, hs1⟩ := setCells_heap ((r.map (Value.int .i64)).drop i) (0 + (i + 1)) w.drew cur hgd
      obtain ⟨cur2, hg2, hs2⟩ := setCells_heap [Value.int .i64 x] (0 + i) _ cur1 hg1
      have hdlen : ((r.map (Value.int .i64)).drop i).length = r.length - i := by simp
      have hsome2 : ∀ j, j < cap → ((w.drew.setCells g (0 + (i + 1)) ((r.map (Value.int .i64)).drop i)).cell? ⟨g, j, none⟩).isSome = true := fun j hj => by
        rw [cell_of_row _ _ _ _ _ _ hg1, Array.getElem?_eq_getElem (by omega)]; rfl
      refine ⟨_, rfl, rowI_cells hg2 hlen'.symm (fun j u hj => ?_), setCells_below (setCells_below hBr.drew hb _ _) hb _ _⟩
      rcases insert_get hi hj with ⟨h1, h2⟩ | ⟨rfl, rfl⟩ | ⟨h1, h2⟩
      · rw [World.cell?_setCells_out g _ _ _ _ (fun _ _ => Or.inl (by simp; omega)), World.cell?_setCells_out g _ _ _ _ (fun _ _ => Or.inl (by simp; omega))]
        exact hcr j u h2
      · have := World.cell?_setCells_in g [Value.int .i64 u] (0 + j) (w.drew.setCells g (0 + (j + 1)) ((r.map (Value.int .i64)).drop j)) (fun k hk => by
          have : k = 0 := by simpa using hk
          subst this
          have := hsome2 j (by omega)
          simpa using this) 0 (by simp)
        simpa using this
      · rw [World.cell?_setCells_out g _ _ _ _ (fun _ _ => Or.inr (by simp; omega))]
        have hjl : j - 1 < r.length := (List.getElem?_eq_some_iff.1 h2).1
        have := World.cell?_setCells_in g ((r.map (Value.int .i64)).drop i) (0 + (i + 1)) w.drew (fun k hk => by
          show (w.cell? _).isSome = true
          exact hsome _ (by omega)) (j - (i + 1)) (by omega)
        rw [show 0 + (i + 1) + (j - (i + 1)) = j by omega] at this
        rw [this]
        have h3 := hdl (j - (i + 1))
        rw [List.getElem?_eq_getElem (by omega), show i + (j - (i + 1)) = j - 1 by omega, h2] at h3
        simpa using h3
    · refine (Any2.slices_Insert_int_grow laysn21 g 0 r.length cap i vb 0 1 1 (r.map (Value.int .i64)) [.int .i64 x] w hend (by omega) hnc (by omega) (by omega) (by simp) rfl (fun j u hj => by rw [Nat.zero_add]; exact hcc j u hj) hvs h1c h1v).mono ?_
      rintro e w' ⟨rfl, rfl⟩
      have hge := grownCap_ge w (r.length + 1) cap 3
      have hz1 : ∀ q, (Builtin.zeroCells (Value.int .i64 0).cells q).size = q := fun q => by rw [size_zeroCells]; exact Nat.mul_one q
      obtain ⟨rw0, hrw⟩ : ∃ c, c = (((r.map (Value.int .i64)).take i).toArray ++ Builtin.zeroCells (Value.int .i64 0).cells (r.length + 1 - i) ++ Builtin.zeroCells (Value.int .i64 0).cells (grownCap w (r.length + 1) cap 3 - (r.length + 1))) := ⟨_, rfl⟩
      have hrs : rw0.size = grownCap w (r.length + 1) cap 3 := by
        rw [hrw]
        simp only [Array.size_append, hz1, List.size_toArray, List.length_take, List.length_map]
        omega
      have hrc : ∀ j u, j < i → r[j]? = some u → rw0[j]? = some (Value.int .i64 u) := fun j u hj hu => by
        rw [hrw, Array.append_assoc, Array.getElem?_append_left (by simp; omega), List.getElem?_toArray, List.getElem?_take, if_pos hj, List.getElem?_map, hu]
        rfl
      have hren : @Eq TypeId (laysn21_ren.t 3) 3 := rfl
      rw [hren, ← hrw]
      clear hrw
      have hgd : (w.alloc (.cells rw0 3)).drew.heap[w.heap.size]? = some (.cells rw0 3 (0, 0)) := heap_alloc_new w _
      obtain ⟨cur1, hg1, hs1⟩ := setCells_heap [Value.int .i64 x] i _ rw0 hgd
      obtain ⟨cur2, hg2, hs2⟩ := setCells_heap ((r.map (Value.int .i64)).drop i) (i + 1) (((w.alloc (.cells rw0 3)).drew.setCells w.heap.size i [Value.int .i64 x]).drew) cur1 hg1
      have hdlen : ((r.map (Value.int .i64)).drop i).length = r.length - i := by simp
      have hB1 : Below base w (w.alloc (.cells rw0 3)).drew := (hBr.alloc hbw _).drew
      refine ⟨_, rfl, rowI_cells hg2 hlen'.symm (fun j u hj => ?_), setCells_below (setCells_below hB1 hbw _ _).drew hbw _ _⟩
      rcases insert_get hi hj with ⟨h1, h2⟩ | ⟨rfl, rfl⟩ | ⟨h1, h2⟩
      · rw [World.cell?_setCells_out _ _ _ _ _ (fun _ _ => Or.inl (by simp; omega))]
        show (((w.alloc (.cells rw0 3)).drew.setCells w.heap.size i [Value.int .i64 x])).cell? _ = _
        rw [World.cell?_setCells_out _ _ _ _ _ (fun _ _ => Or.inl (by simp; omega)), cell_of_row _ _ _ _ _ _ hgd]
        exact hrc j u h1 h2
      · rw [World.cell?_setCells_out _ _ _ _ _ (fun _ _ => Or.inl (by simp))]
        show (((w.alloc (.cells rw0 3)).drew.setCells w.heap.size j [Value.int .i64 u])).cell? _ = _
        have := World.cell?_setCells_in w.heap.size [Value.int .i64 u] j (w.alloc (.cells rw0 3)).drew (fun k hk => by
          have : k = 0 := by simpa using hk
          subst this
          rw [cell_of_row _ _ _ _ _ _ hgd, Array.getElem?_eq_getElem (by omega)]; rfl) 0 (by simp)
        simpa using this
      · have hjl : j - 1 < r.length := (List.getElem?_eq_some_iff.1 h2).1
        have := World.cell?_setCells_in w.heap.size ((r.map (Value.int .i64)).drop i) (i + 1) (((w.alloc (.cells rw0 3)).drew.setCells w.heap.size i [Value.int .i64 x]).drew) (fun k hk => by
          show ((((w.alloc (.cells rw0 3)).drew.setCells w.heap.size i [Value.int .i64 x])).cell? _).isSome = true
          rw [cell_of_row _ _ _ _ _ _ hg1, Array.getElem?_eq_getElem (by omega)]; rfl) (j - (i + 1)) (by omega)
        rw [show (i + 1) + (j - (i + 1)) = j by omega] at this
        rw [this]
        have h3 := hdl (j - (i + 1))
        rw [List.getElem?_eq_getElem (by omega), show i + (j - (i + 1)) = j - 1 by omega, h2] at h3
        simpa using h3
  · obtain rfl : i = r.length := by omega
    by_cases hroom : r.length + 1 ≤ cap
    · refine (Any2.slices_Insert_int_end_room laysn21 g 0 r.length cap vb 0 1 1 [.int .i64 x] w (by omega) hroom (by unfold maxLen at hcm; omega) rfl (fun j hj => by
        obtain rfl : j = 0 := by omega
        rw [Nat.zero_add, Nat.add_zero]; exact hsome _ (by omega)) (fun j _ => hfz _) hvs h1v).mono ?_
      rintro e w' ⟨rfl, rfl⟩
      obtain ⟨cur1, hg1, hs1⟩ := setCells_heap [Value.int .i64 x] (0 + r.length) w cur hg
      refine ⟨_, rfl, rowI_cells hg1 hlen'.symm (fun j u hj => ?_), setCells_below hBr hb _ _⟩
      rcases insert_get hi hj with ⟨h1, h2⟩ | ⟨rfl, rfl⟩ | ⟨h1, h2⟩
      · rw [World.cell?_setCells_out g _ _ _ _ (fun _ _ => Or.inl (by simp; omega))]
        exact hcr j u h2
      · have := World.cell?_setCells_in g [Value.int .i64 u] (0 + r.length) w (fun k hk => by
          have : k = 0 := by simpa using hk
          subst this
          rw [Nat.zero_add, Nat.add_zero]; exact hsome _ (by omega)) 0 (by simp)
        simpa using this
      · have := (List.getElem?_eq_some_iff.1 h2).1; omega
    · refine (Any2.slices_Insert_int_end_grow laysn21 (some ⟨g, 0, none⟩) r.length cap vb 0 1 1 (r.map (Value.int .i64)) [.int .i64 x] w (by omega) hnc (by omega) (by omega) (by simp) rfl (by simp) (fun a ha j u hj => by
        simp only [Option.some.injEq] at ha
        subst ha
        rw [Addr.add_lit, Nat.zero_add]
        exact hcc j u hj) hvs h1v).mono ?_
      rintro e w' ⟨rfl, rfl⟩
      have hgd := heap_alloc_new w.drew (.cells ((r.map (Value.int .i64) ++ [Value.int .i64 x]).toArray ++ Builtin.zeroCells (Value.int .i64 0).cells (grownCap w (r.length + 1) cap (laysn21_ren.t 3) - (r.length + 1))) (laysn21_ren.t 3))
      refine ⟨_, rfl, rowI_cells hgd hlen'.symm (fun j u hj => ?_), (hBr.drew).alloc hbw _⟩
      have hjl : j < (r.map (Value.int .i64) ++ [Value.int .i64 x]).length := by
        have := (List.getElem?_eq_some_iff.1 hj).1
        simp at this ⊢; omega
      refine (cell_of_row _ _ _ _ _ _ hgd).trans ?_
      rw [Array.getElem?_append_left (by simpa using hjl), List.getElem?_toArray]
      rw [List.take_length, List.drop_length] at hj
      have : ((r ++ [x]).map (Value.int .i64))[j]? = some (Value.int .i64 u) := by rw [List.getElem?_map, hj]; rfl
      rw [List.map_append] at this
      exact this
end
end Go.Proofs.Ytglgmkikegbchaa
