/- container/list as a row of numbers: the cells of the ring, and what each step makes of them (no program in sight). -/
import Derived.Test.YtglgmkikegbchaaaRing
import Derived.Laws.Rows
import Derived.Laws.World
import Derived.WalkLawsBesides
import Derived.Below
namespace Go.Proofs.Ytglgmkikegbchaa

abbrev vP (b : Nat) : Value := .pointer (some ⟨b, 0, none⟩)
abbrev vNil : Value := .pointer none

/-- A node's block: k cells at least, never frozen, of a type of S, not below n0. -/
def Nd (S : TypeId → Prop) (n0 k : Nat) (w : World) (b : Nat) : Prop := n0 ≤ b ∧ ∃ c t, w.heap[b]? = some (.cells c t (0, 0)) ∧ k ≤ c.size ∧ S t
section
variable {S : TypeId → Prop} {n0 k : Nat} {w : World} {b : Nat}
theorem Nd.lt (h : Nd S n0 k w b) : b < w.heap.size := by
  obtain ⟨_, c, t, e, _⟩ := h
  exact (Array.getElem?_eq_some_iff.1 e).1
theorem Nd.isSome (h : Nd S n0 k w b) {i : Nat} (hi : i < k) : (w.cell? ⟨b, i, none⟩).isSome = true := by
  obtain ⟨_, c, t, e, hk, _⟩ := h
  have hic : i < c.size := by omega
  simp [World.cell?, e, hic]
theorem Nd.cell (h : Nd S n0 k w b) {i : Nat} (hi : i < k) : ∃ v, w.cell? ⟨b, i, none⟩ = some v := Option.isSome_iff_exists.1 (h.isSome hi)
theorem Nd.frozen (h : Nd S n0 k w b) (i : Nat) : w.frozen? ⟨b, i, none⟩ = false := by
  obtain ⟨_, c, t, e, hk, _⟩ := h
  simp [World.frozen?, e]
theorem Nd.entry (h : Nd S n0 k w b) : ∃ c t, w.heap[b]? = some (.cells c t (0, 0)) := by
  obtain ⟨_, c, t, e, hk, _⟩ := h
  exact ⟨c, t, e⟩
theorem Nd.set (h : Nd S n0 k w b) (a i : Nat) (v : Value) : Nd S n0 k (w.setCell ⟨a, i, none⟩ v) b := by
  obtain ⟨hb, c, t, e, hk, ht⟩ := h
  by_cases hab : b = a
  · subst hab
    exact ⟨hb, _, t, heap_setCell_same w b i c t v e, by simpa using hk, ht⟩
  · exact ⟨hb, c, t, (heap_setCell_other w _ b v hab).trans e, hk, ht⟩
theorem Nd.mono {k' : Nat} (h : Nd S n0 k w b) (hk : k' ≤ k) : Nd S n0 k' w b := by
  obtain ⟨hb, c, t, e, h, ht⟩ := h
  exact ⟨hb, c, t, e, by omega, ht⟩
theorem Nd.keep {w' : World} (h : Nd S n0 k w b) (e : w'.heap[b]? = w.heap[b]?) : Nd S n0 k w' b := by
  obtain ⟨hb, c, t, e', h⟩ := h
  exact ⟨hb, c, t, e.trans e', h⟩
theorem Nd.drew (h : Nd S n0 k w b) : Nd S n0 k w.drew b := h
end
theorem cell_drew2 (w : World) (p : Addr) : w.drew.drew.cell? p = w.cell? p := rfl
theorem cs2 {w : World} {a j : Nat} (h : (w.cell? ⟨a, j, none⟩).isSome = true) (v : Value) (b i : Nat) :
    (w.setCell ⟨a, j, none⟩ v).cell? ⟨b, i, none⟩ = if b = a ∧ i = j then some v else w.cell? ⟨b, i, none⟩ := by
  by_cases e : b = a ∧ i = j
  · rw [if_pos e, e.1, e.2]
    obtain ⟨u, hu⟩ := Option.isSome_iff_exists.1 h
    exact World.cell?_setCell_same _ _ _ hu
  · rw [if_neg e]
    exact World.cell?_setCell_other _ _ _ _ (fun h => e (by cases h; exact ⟨rfl, rfl⟩))

/-- Only blocks from n0 on, of the types S (and new ones), have changed. -/
structure Fr (S : TypeId → Prop) (n0 : Nat) (w w' : World) : Prop where
  os : w'.os = w.os
  tape : w'.tape = w.tape
  output : w'.output = w.output
  size : w.heap.size ≤ w'.heap.size
  block : ∀ k, k < w.heap.size → (k < n0 ∨ ∀ c t fr, w.heap[k]? = some (.cells c t fr) → ¬ S t) → w'.heap[k]? = w.heap[k]?
section
variable {S : TypeId → Prop} {n0 : Nat} {w w1 w2 : World}
theorem Fr.refl (S : TypeId → Prop) (n0 : Nat) (w : World) : Fr S n0 w w := ⟨rfl, rfl, rfl, Nat.le_refl _, fun _ _ _ => rfl⟩
theorem Fr.trans (h : Fr S n0 w w1) (h2 : Fr S n0 w1 w2) : Fr S n0 w w2 :=
  ⟨h2.os.trans h.os, h2.tape.trans h.tape, h2.output.trans h.output, Nat.le_trans h.size h2.size, fun k hk ht => by
    have e := h.block k hk ht
    exact (h2.block k (Nat.lt_of_lt_of_le hk h.size) (by rw [e]; exact ht)).trans e⟩
theorem Fr.mono {S' : TypeId → Prop} {n1 : Nat} (h : Fr S n0 w w1) (hn : n1 ≤ n0) (hS : ∀ t, S t → S' t) : Fr S' n1 w w1 :=
  ⟨h.os, h.tape, h.output, h.size, fun k hk ht => h.block k hk (ht.imp (fun h => Nat.lt_of_lt_of_le h hn) (fun h c t fr e hs => h c t fr e (hS t hs)))⟩
theorem Fr.set {k a : Nat} (h : Fr S n0 w w1) (ha : Nd S n0 k w a) (i : Nat) (v : Value) : Fr S n0 w (w1.setCell ⟨a, i, none⟩ v) :=
  ⟨h.os, h.tape, h.output, by simpa [World.setCell] using h.size, fun k hk ht => (heap_setCell_other w1 _ k v (fun e => by
    obtain ⟨h0, c, t, e', _, hs⟩ := ha
    have e : k = a := e
    subst e
    rcases ht with ht | ht
    · omega
    · exact ht _ _ _ e' hs)).trans (h.block k hk ht)⟩
theorem Fr.drew (h : Fr S n0 w w1) : Fr S n0 w w1.drew := ⟨h.os, h.tape, h.output, h.size, h.block⟩
theorem Fr.alloc (h : Fr S n0 w w1) (o : Obj) : Fr S n0 w (w1.alloc o) :=
  ⟨h.os, h.tape, h.output, by have := h.size; simp; omega, fun k hk ht => (heap_alloc_old w1 o (Nat.lt_of_lt_of_le hk h.size)).trans (h.block k hk ht)⟩
theorem Fr.below (h : Fr S n0 w w1) (hn : w.heap.size ≤ n0) : Go.RowKit.Below w.heap.size w w1 :=
  ⟨h.os, h.tape, h.output, h.size, fun k hk => h.block k hk (Or.inl (Nat.lt_of_lt_of_le hk hn))⟩
end

/-- The list: its block L, the elements' blocks E, m of them made, those ahead of f given up, the row r. -/
structure Lst (V : Int → Value) (S : TypeId → Prop) (n0 : Nat) (w : World) (L : Nat) (E : Int → Nat) (m f : Int) (r : List Int) : Prop where
  hL : Nd S n0 5 w L
  hE : ∀ j, 0 ≤ j → j < m → Nd S n0 4 w (E j)
  inj : ∀ i j, 0 ≤ i → i < m → 0 ≤ j → j < m → E i = E j → i = j
  neL : ∀ j, 0 ≤ j → j < m → E j ≠ L
  len : w.cell? ⟨L, 4, none⟩ = some (.int .i64 r.length)
  nd : r.Nodup
  mem : ∀ j ∈ r, f ≤ j ∧ j < m
  f0 : 0 ≤ f ∧ f ≤ m
  ring : ∃ N P, Dbl N P L (r.map E) L ∧ ∀ b ∈ L :: r.map E, w.cell? ⟨b, 0, none⟩ = some (vP (N b)) ∧ w.cell? ⟨b, 1, none⟩ = some (vP (P b))
  lst : ∀ j, f ≤ j → j < m → w.cell? ⟨E j, 2, none⟩ = some (if j ∈ r then vP L else vNil)
  val : ∀ j, 0 ≤ j → j < m → w.cell? ⟨E j, 3, none⟩ = some (V j)

section
variable {V : Int → Value} {S : TypeId → Prop} {n0 : Nat} {w : World} {L : Nat} {E : Int → Nat} {m f : Int} {r m1 m2 l1 l2 : List Int} {j : Int}
theorem Lst.inR (h : Lst V S n0 w L E m f r) {j : Int} (hj : j ∈ r) : 0 ≤ j ∧ j < m := by
  have := h.mem j hj; have := h.f0; omega
theorem Lst.notin (h : Lst V S n0 w L E m f r) {j : Int} (h0 : 0 ≤ j) (h1 : j < m) (hj : j ∉ r) : E j ∉ r.map E := fun hm => by
  obtain ⟨i, hi, e⟩ := List.mem_map.1 hm
  have := h.inR hi
  exact hj (by rw [← h.inj i j (by omega) (by omega) h0 h1 e]; exact hi)
theorem Lst.Lnot (h : Lst V S n0 w L E m f r) : L ∉ r.map E := fun hm => by
  obtain ⟨i, hi, e⟩ := List.mem_map.1 hm
  have := h.inR hi
  exact h.neL i (by omega) (by omega) e
theorem nodup_map {E : Int → Nat} : ∀ {r : List Int}, r.Nodup → (∀ i ∈ r, ∀ j ∈ r, E i = E j → i = j) → (r.map E).Nodup
  | [], _, _ => List.nodup_nil
  | x :: r, h, hi => by
    rw [List.map_cons, List.nodup_cons]
    rw [List.nodup_cons] at h
    refine ⟨fun hm => ?_, nodup_map h.2 (fun i hi' j hj => hi i (List.mem_cons_of_mem _ hi') j (List.mem_cons_of_mem _ hj))⟩
    obtain ⟨i, hi', e⟩ := List.mem_map.1 hm
    exact h.1 (by rw [← hi i (List.mem_cons_of_mem _ hi') x List.mem_cons_self e]; exact hi')
theorem Lst.mapNd (h : Lst V S n0 w L E m f r) : (r.map E).Nodup := nodup_map h.nd (fun i hi j hj e => h.inj i j (h.inR hi).1 (h.inR hi).2 (h.inR hj).1 (h.inR hj).2 e)
/-- A node of the ring. -/
theorem Lst.node (h : Lst V S n0 w L E m f r) {b : Nat} (hb : b ∈ L :: r.map E) : Nd S n0 4 w b := by
  rcases List.mem_cons.1 hb with rfl | hb
  · exact h.hL.mono (by omega)
  · obtain ⟨i, hi, rfl⟩ := List.mem_map.1 hb
    have := h.inR hi
    exact h.hE i (by omega) (by omega)

theorem Lst.keep (h : Lst V S n0 w L E m f r) {w' : World} (hk : ∀ b, Nd S n0 4 w b → w'.heap[b]? = w.heap[b]?) : Lst V S n0 w' L E m f r := by
  have hL := hk L (h.hL.mono (by omega))
  have hE : ∀ j, 0 ≤ j → j < m → w'.heap[E j]? = w.heap[E j]? := fun j h0 h1 => hk _ (h.hE j h0 h1)
  have hc : ∀ b i, w'.heap[b]? = w.heap[b]? → w'.cell? ⟨b, i, none⟩ = w.cell? ⟨b, i, none⟩ := fun b i e => World.cell?_of_block (by exact e)
  have hf := h.f0
  obtain ⟨N, P, hd, hcs⟩ := h.ring
  refine ⟨h.hL.keep hL, fun j h0 h1 => (h.hE j h0 h1).keep (hE j h0 h1), h.inj, h.neL, (hc _ _ hL).trans h.len, h.nd, h.mem, h.f0, ⟨N, P, hd, fun b hb => ?_⟩, fun j h0 h1 => (hc _ _ (hE j (by omega) h1)).trans (h.lst j h0 h1), fun j h0 h1 => (hc _ _ (hE j h0 h1)).trans (h.val j h0 h1)⟩
  have e := hk b (h.node hb)
  exact ⟨(hc _ _ e).trans (hcs b hb).1, (hc _ _ e).trans (hcs b hb).2⟩
/-- What changes blocks of other types leaves the list. -/
theorem Lst.fr (h : Lst V S n0 w L E m f r) {w' : World} {S' : TypeId → Prop} {n1 : Nat} (hf : Fr S' n1 w w') (hS : ∀ t, S t → ¬ S' t) : Lst V S n0 w' L E m f r :=
  h.keep (fun b hb => by
    obtain ⟨_, c, t, e, _, hs⟩ := hb
    exact hf.block b (Array.getElem?_eq_some_iff.1 e).1 (Or.inr (fun c' t' fr e' => by rw [e] at e'; cases e'; exact hS t hs)))

/-- A new element, in no row yet. -/
theorem Lst.more (h : Lst V S n0 w L E m f r) (t : TypeId) (ht : S t) : Lst V S n0 (w.alloc (.cells #[vNil, vNil, vNil, V m] t)) L (fun j => if j = m then w.heap.size else E j) (m + 1) f r := by
  have hlt : ∀ j, 0 ≤ j → j < m → E j < w.heap.size := fun j h0 h1 => (h.hE j h0 h1).lt
  have hf := h.f0
  have hnew : (w.alloc (.cells #[vNil, vNil, vNil, V m] t)).heap[w.heap.size]? = some (.cells #[vNil, vNil, vNil, V m] t (0, 0)) := heap_alloc_new w _
  have hold : ∀ k, k < w.heap.size → (w.alloc (.cells #[vNil, vNil, vNil, V m] t)).heap[k]? = w.heap[k]? := fun k hk => heap_alloc_old w _ hk
  have h' := h.keep (w' := w.alloc (.cells #[vNil, vNil, vNil, V m] t)) (fun b hb => hold b hb.lt)
  have hmap : r.map (fun j => if j = m then w.heap.size else E j) = r.map E := List.map_congr_left (fun j hj => if_neg (by have := h.mem j hj; omega))
  have hmr : m ∉ r := fun hm => by have := h.mem m hm; omega
  have hn0 : n0 ≤ w.heap.size := Nat.le_trans h.hL.1 (Nat.le_of_lt h.hL.lt)
  refine ⟨h'.hL, fun j h0 h1 => ?_, fun i j h0 h1 h2 h3 e => ?_, fun j h0 h1 => ?_, h'.len, h.nd, fun j hj => by have := h.mem j hj; omega, by omega, by rw [hmap]; exact h'.ring, fun j h0 h1 => ?_, fun j h0 h1 => ?_⟩
  · by_cases hj : j = m
    · simp only [hj, if_true]; exact ⟨hn0, _, t, hnew, by simp, ht⟩
    · simp only [if_neg hj]; exact h'.hE j h0 (by omega)
  · by_cases hi : i = m <;> by_cases hj : j = m
    · omega
    · simp only [hi, hj, if_true, if_false] at e; have := hlt j h2 (by omega); omega
    · simp only [hi, hj, if_true, if_false] at e; have := hlt i h0 (by omega); omega
    · simp only [hi, hj, if_false] at e; exact h.inj i j h0 (by omega) h2 (by omega) e
  · by_cases hj : j = m
    · simp only [hj, if_true]; have := h.hL.lt; omega
    · simp only [if_neg hj]; exact h.neL j h0 (by omega)
  · by_cases hj : j = m
    · simp only [hj, if_true, if_neg hmr]
      exact cell_of_row _ _ 2 _ _ _ hnew
    · simp only [if_neg hj]; exact h'.lst j h0 (by omega)
  · by_cases hj : j = m
    · simp only [hj, if_true]
      exact cell_of_row _ _ 3 _ _ _ hnew
    · simp only [if_neg hj]; exact h'.val j h0 (by omega)

set_option maxHeartbeats 2000000 in
/-- One is put in behind the last of m1. -/
theorem Lst.ins (h : Lst V S n0 w L E m f (m1 ++ m2)) (hj0 : f ≤ j) (hj1 : j < m) (hjr : j ∉ m1 ++ m2) {N P : Nat → Nat} (hd : Dbl N P L ((m1 ++ m2).map E) L)
    (hcs : ∀ b ∈ L :: (m1 ++ m2).map E, w.cell? ⟨b, 0, none⟩ = some (vP (N b)) ∧ w.cell? ⟨b, 1, none⟩ = some (vP (P b))) (e a n : Nat) (len : Int) (he : e = E j) (ha : a = lastOf L (m1.map E)) (hn : n = N a) (hlen : len = (m1 ++ m2).length) :
    Lst V S n0 ((((((w.setCell ⟨e, 1, none⟩ (vP a)).setCell ⟨e, 0, none⟩ (vP n)).setCell ⟨a, 0, none⟩ (vP e)).setCell ⟨n, 1, none⟩ (vP e)).setCell ⟨e, 2, none⟩ (vP L)).setCell ⟨L, 4, none⟩ (.int .i64 (len + 1))) L E m f (m1 ++ j :: m2) ∧
      Fr S n0 w ((((((w.setCell ⟨e, 1, none⟩ (vP a)).setCell ⟨e, 0, none⟩ (vP n)).setCell ⟨a, 0, none⟩ (vP e)).setCell ⟨n, 1, none⟩ (vP e)).setCell ⟨e, 2, none⟩ (vP L)).setCell ⟨L, 4, none⟩ (.int .i64 (len + 1))) := by
  have hf := h.f0
  have hne : Nd S n0 4 w e := by rw [he]; exact h.hE j (by omega) hj1
  have hem : e ∉ (m1 ++ m2).map E := by rw [he]; exact h.notin (by omega) hj1 hjr
  have heL : e ≠ L := by rw [he]; exact h.neL j (by omega) hj1
  have ham : a ∈ L :: (m1 ++ m2).map E := by
    rw [ha, List.map_append]
    have := lastOf_mem L (m1.map E)
    simp only [List.mem_cons, List.mem_append] at this ⊢
    rcases this with h | h
    · exact Or.inl h
    · exact Or.inr (Or.inl h)
  have hnm : n ∈ L :: (m1 ++ m2).map E := by rw [hn]; exact (ring_next hd ham).1
  have hna := (h.node ham)
  have hnn := (h.node hnm)
  have hnL := h.hL
  refine ⟨?_, (((((((Fr.refl S n0 w).set hne _ _).set hne _ _).set hna _ _).set hnn _ _).set hne _ _).set h.hL _ _)⟩
  have hae : a ≠ e := fun e' => by rw [e'] at ham; rcases List.mem_cons.1 ham with h | h; exact heL h; exact hem h
  have hne' : n ≠ e := fun e' => by rw [e'] at hnm; rcases List.mem_cons.1 hnm with h | h; exact heL h; exact hem h
  have hcell : ∀ b i, (((((((w.setCell ⟨e, 1, none⟩ (vP a)).setCell ⟨e, 0, none⟩ (vP n)).setCell ⟨a, 0, none⟩ (vP e)).setCell ⟨n, 1, none⟩ (vP e)).setCell ⟨e, 2, none⟩ (vP L)).setCell ⟨L, 4, none⟩ (.int .i64 (len + 1)))).cell? ⟨b, i, none⟩ =
      if b = L ∧ i = 4 then some (.int .i64 (len + 1)) else if b = e ∧ i = 2 then some (vP L) else if b = n ∧ i = 1 then some (vP e) else if b = a ∧ i = 0 then some (vP e) else if b = e ∧ i = 0 then some (vP n) else if b = e ∧ i = 1 then some (vP a) else w.cell? ⟨b, i, none⟩ := fun b i => by
    rw [cs2 (Nd.isSome (k := 5) (by repeat' apply Nd.set
                                    all_goals assumption) (by decide)), cs2 (Nd.isSome (k := 4) (by repeat' apply Nd.set
                                                                                                    all_goals assumption) (by decide)), cs2 (Nd.isSome (k := 4) (by repeat' apply Nd.set
                                                                                                                                                                    all_goals assumption) (by decide)),
      cs2 (Nd.isSome (k := 4) (by repeat' apply Nd.set
                                  all_goals assumption) (by decide)), cs2 (Nd.isSome (k := 4) (by repeat' apply Nd.set
                                                                                                  all_goals assumption) (by decide)), cs2 (Nd.isSome (k := 4) hne (by decide))]
  have hnd : ∀ k b, Nd S n0 k w b → Nd S n0 k (((((((w.setCell ⟨e, 1, none⟩ (vP a)).setCell ⟨e, 0, none⟩ (vP n)).setCell ⟨a, 0, none⟩ (vP e)).setCell ⟨n, 1, none⟩ (vP e)).setCell ⟨e, 2, none⟩ (vP L)).setCell ⟨L, 4, none⟩ (.int .i64 (len + 1)))) b := fun k b hb => by
    repeat' apply Nd.set
    exact hb
  generalize ((((((w.setCell ⟨e, 1, none⟩ (vP a)).setCell ⟨e, 0, none⟩ (vP n)).setCell ⟨a, 0, none⟩ (vP e)).setCell ⟨n, 1, none⟩ (vP e)).setCell ⟨e, 2, none⟩ (vP L)).setCell ⟨L, 4, none⟩ (.int .i64 (len + 1))) = w' at hcell hnd ⊢
  have hLn := h.Lnot
  have hmn := h.mapNd
  refine ⟨hnd _ _ h.hL, fun j h0 h1 => hnd _ _ (h.hE j h0 h1), h.inj, h.neL, ?_, ?_, fun i hi => ?_, h.f0, ⟨fun y => if y = a then e else if y = e then N a else N y, fun y => if y = N a then e else if y = e then a else P y, ?_, fun b hb => ?_⟩, fun i h0 h1 => ?_, fun i h0 h1 => ?_⟩
  · rw [hcell, if_pos ⟨rfl, rfl⟩, hlen]; simp; omega
  · have := h.nd; grind
  · have := h.mem i; grind
  · rw [List.map_append, List.map_cons, ← he]
    rw [List.map_append] at hd hem hLn hmn
    exact dbl_ins hd (by simp only [List.nodup_cons]; grind) (fun y _ => by rw [ha]) (fun y _ => by rw [ha])
  · have hb' : b = e ∨ b ∈ L :: (m1 ++ m2).map E := by
      rw [List.map_append, List.map_cons, ← he] at hb
      rw [List.map_append]
      grind
    have hbe : b ≠ e → b ∈ L :: (m1 ++ m2).map E := fun h => hb'.resolve_left h
    clear hb hb'
    dsimp only
    rw [hcell, hcell, ← hn]
    constructor
    · rw [if_neg (by omega), if_neg (by omega), if_neg (by omega)]
      by_cases h1 : b = a
      · rw [if_pos ⟨h1, rfl⟩, if_pos h1]
      · rw [if_neg (fun h => h1 h.1), if_neg h1]
        by_cases h2 : b = e
        · rw [if_pos ⟨h2, rfl⟩, if_pos h2]
        · rw [if_neg (fun h => h2 h.1), if_neg h2, if_neg (by omega)]
          exact (hcs b (hbe h2)).1
    · rw [if_neg (by omega), if_neg (by omega)]
      by_cases h1 : b = n
      · rw [if_pos ⟨h1, rfl⟩, if_pos h1]
      · rw [if_neg (fun h => h1 h.1), if_neg h1, if_neg (by omega), if_neg (by omega)]
        by_cases h2 : b = e
        · rw [if_pos ⟨h2, rfl⟩, if_pos h2]
        · rw [if_neg (fun h => h2 h.1), if_neg h2]
          exact (hcs b (hbe h2)).2
  · rw [hcell]
    by_cases hij : i = j
    · subst hij
      rw [if_neg (by omega), if_pos ⟨he.symm, rfl⟩, if_pos (by grind)]
    · have : E i ≠ e := fun e' => hij (h.inj i j (by omega) h1 (by omega) hj1 (by rw [e', he]))
      rw [if_neg (by omega), if_neg (by omega), if_neg (by omega), if_neg (by omega), if_neg (by omega), if_neg (by omega), h.lst i h0 h1]
      have : i ∈ m1 ++ m2 ↔ i ∈ m1 ++ j :: m2 := by grind
      simp only [this]
  · rw [hcell, if_neg (by omega), if_neg (by omega), if_neg (by omega), if_neg (by omega), if_neg (by omega), if_neg (by omega)]
    exact h.val i h0 h1

set_option maxHeartbeats 2000000 in
/-- One is taken out. -/
theorem Lst.del (h : Lst V S n0 w L E m f (l1 ++ j :: l2)) {N P : Nat → Nat} (hd : Dbl N P L ((l1 ++ j :: l2).map E) L)
    (hcs : ∀ b ∈ L :: (l1 ++ j :: l2).map E, w.cell? ⟨b, 0, none⟩ = some (vP (N b)) ∧ w.cell? ⟨b, 1, none⟩ = some (vP (P b))) (e p n : Nat) (len : Int) (he : e = E j) (hp : p = P e) (hn : n = N e) (hlen : len = (l1 ++ j :: l2).length) :
    Lst V S n0 ((((((w.setCell ⟨p, 0, none⟩ (vP n)).setCell ⟨n, 1, none⟩ (vP p)).setCell ⟨e, 0, none⟩ vNil).setCell ⟨e, 1, none⟩ vNil).setCell ⟨e, 2, none⟩ vNil).setCell ⟨L, 4, none⟩ (.int .i64 (len - 1))).drew.drew L E m f (l1 ++ l2) ∧
      Fr S n0 w ((((((w.setCell ⟨p, 0, none⟩ (vP n)).setCell ⟨n, 1, none⟩ (vP p)).setCell ⟨e, 0, none⟩ vNil).setCell ⟨e, 1, none⟩ vNil).setCell ⟨e, 2, none⟩ vNil).setCell ⟨L, 4, none⟩ (.int .i64 (len - 1))).drew.drew := by
  have hf := h.f0
  have hjm : j ∈ l1 ++ j :: l2 := by simp
  have hj := h.inR hjm
  have hjf := (h.mem j hjm).1
  have hem : e ∈ L :: (l1 ++ j :: l2).map E := by rw [he]; exact List.mem_cons_of_mem _ (List.mem_map.2 ⟨j, hjm, rfl⟩)
  have heL : e ≠ L := by rw [he]; exact h.neL j (by omega) hj.2
  have hne := (h.node hem)
  have hnp := (h.node (by rw [hp]; exact (ring_prev hd hem).1 : p ∈ _))
  have hnn := (h.node (by rw [hn]; exact (ring_next hd hem).1 : n ∈ _))
  have hnL := h.hL
  refine ⟨?_, (((((((Fr.refl S n0 w).set hnp _ _).set hnn _ _).set hne _ _).set hne _ _).set hne _ _).set h.hL _ _).drew.drew⟩
  have hcell : ∀ b i, (((((((w.setCell ⟨p, 0, none⟩ (vP n)).setCell ⟨n, 1, none⟩ (vP p)).setCell ⟨e, 0, none⟩ vNil).setCell ⟨e, 1, none⟩ vNil).setCell ⟨e, 2, none⟩ vNil).setCell ⟨L, 4, none⟩ (.int .i64 (len - 1))).drew.drew).cell? ⟨b, i, none⟩ =
      if b = L ∧ i = 4 then some (.int .i64 (len - 1)) else if b = e ∧ i = 2 then some vNil else if b = e ∧ i = 1 then some vNil else if b = e ∧ i = 0 then some vNil else if b = n ∧ i = 1 then some (vP p) else if b = p ∧ i = 0 then some (vP n) else w.cell? ⟨b, i, none⟩ := fun b i => by
    rw [cell_drew2]
    rw [cs2 (Nd.isSome (k := 5) (by repeat' apply Nd.set
                                    all_goals assumption) (by decide)), cs2 (Nd.isSome (k := 4) (by repeat' apply Nd.set
                                                                                                    all_goals assumption) (by decide)), cs2 (Nd.isSome (k := 4) (by repeat' apply Nd.set
                                                                                                                                                                    all_goals assumption) (by decide)),
      cs2 (Nd.isSome (k := 4) (by repeat' apply Nd.set
                                  all_goals assumption) (by decide)), cs2 (Nd.isSome (k := 4) (by repeat' apply Nd.set
                                                                                                  all_goals assumption) (by decide)), cs2 (Nd.isSome (k := 4) hnp (by decide))]
  have hnd : ∀ k b, Nd S n0 k w b → Nd S n0 k ((((((w.setCell ⟨p, 0, none⟩ (vP n)).setCell ⟨n, 1, none⟩ (vP p)).setCell ⟨e, 0, none⟩ vNil).setCell ⟨e, 1, none⟩ vNil).setCell ⟨e, 2, none⟩ vNil).setCell ⟨L, 4, none⟩ (.int .i64 (len - 1))).drew.drew b := fun k b hb => by
    apply Nd.drew
    apply Nd.drew
    repeat' apply Nd.set
    exact hb
  generalize ((((((w.setCell ⟨p, 0, none⟩ (vP n)).setCell ⟨n, 1, none⟩ (vP p)).setCell ⟨e, 0, none⟩ vNil).setCell ⟨e, 1, none⟩ vNil).setCell ⟨e, 2, none⟩ vNil).setCell ⟨L, 4, none⟩ (.int .i64 (len - 1))).drew.drew = w' at hcell hnd ⊢
  have hLn := h.Lnot
  have hmn := h.mapNd
  refine ⟨hnd _ _ h.hL, fun j h0 h1 => hnd _ _ (h.hE j h0 h1), h.inj, h.neL, ?_, ?_, fun i hi => ?_, h.f0, ⟨fun y => if y = p then n else N y, fun y => if y = n then p else P y, ?_, fun b hb => ?_⟩, fun i h0 h1 => ?_, fun i h0 h1 => ?_⟩
  · rw [hcell, if_pos ⟨rfl, rfl⟩, hlen]; simp; omega
  · have := h.nd; grind
  · have := h.mem i; grind
  · rw [List.map_append, List.map_cons, ← he] at hd hLn hmn
    rw [List.map_append]
    exact dbl_del hd (by simp only [List.nodup_cons]; grind) (fun y _ => by rw [hp, hn]) (fun y _ => by rw [hp, hn])
  · have hbe : b ≠ e := fun h' => by
      rw [h', List.map_append] at hb
      rw [List.map_append, List.map_cons, ← he] at hmn
      grind
    have hbm : b ∈ L :: (l1 ++ j :: l2).map E := by
      rw [List.map_append] at hb
      rw [List.map_append, List.map_cons]
      grind
    dsimp only
    rw [hcell, hcell]
    constructor
    · rw [if_neg (by omega), if_neg (by omega), if_neg (by omega), if_neg (fun h => hbe h.1), if_neg (by omega)]
      by_cases h1 : b = p
      · rw [if_pos ⟨h1, rfl⟩, if_pos h1]
      · rw [if_neg (fun h => h1 h.1), if_neg h1]
        exact (hcs b hbm).1
    · rw [if_neg (by omega), if_neg (by omega), if_neg (fun h => hbe h.1), if_neg (by omega)]
      by_cases h1 : b = n
      · rw [if_pos ⟨h1, rfl⟩, if_pos h1]
      · rw [if_neg (fun h => h1 h.1), if_neg h1, if_neg (by omega)]
        exact (hcs b hbm).2
  · rw [hcell]
    by_cases hij : i = j
    · subst hij
      rw [if_neg (by omega), if_pos ⟨he.symm, rfl⟩, if_neg (by have := h.nd; grind)]
    · have : E i ≠ e := fun e' => hij (h.inj i j (by omega) h1 (by omega) hj.2 (by rw [e', he]))
      rw [if_neg (by omega), if_neg (by omega), if_neg (by omega), if_neg (by omega), if_neg (by omega), if_neg (by omega), h.lst i h0 h1]
      have : i ∈ l1 ++ j :: l2 ↔ i ∈ l1 ++ l2 := by grind
      simp only [this]
  · rw [hcell, if_neg (by omega), if_neg (by omega), if_neg (by omega), if_neg (by omega), if_neg (by omega), if_neg (by omega)]
    exact h.val i h0 h1

set_option maxHeartbeats 2000000 in
/-- One is moved behind the last of m1. -/
theorem Lst.mov (h : Lst V S n0 w L E m f (l1 ++ j :: l2)) (hr : l1 ++ l2 = m1 ++ m2) {N P : Nat → Nat} (hd : Dbl N P L ((l1 ++ j :: l2).map E) L)
    (hcs : ∀ b ∈ L :: (l1 ++ j :: l2).map E, w.cell? ⟨b, 0, none⟩ = some (vP (N b)) ∧ w.cell? ⟨b, 1, none⟩ = some (vP (P b))) (e p n a q : Nat) (he : e = E j) (hp : p = P e) (hn : n = N e) (ha : a = lastOf L (m1.map E)) (hq : q = if a = p then n else N a) :
    Lst V S n0 ((((((w.setCell ⟨p, 0, none⟩ (vP n)).setCell ⟨n, 1, none⟩ (vP p)).setCell ⟨e, 1, none⟩ (vP a)).setCell ⟨e, 0, none⟩ (vP q)).setCell ⟨a, 0, none⟩ (vP e)).setCell ⟨q, 1, none⟩ (vP e)).drew.drew L E m f (m1 ++ j :: m2) ∧
      Fr S n0 w ((((((w.setCell ⟨p, 0, none⟩ (vP n)).setCell ⟨n, 1, none⟩ (vP p)).setCell ⟨e, 1, none⟩ (vP a)).setCell ⟨e, 0, none⟩ (vP q)).setCell ⟨a, 0, none⟩ (vP e)).setCell ⟨q, 1, none⟩ (vP e)).drew.drew := by
  have hf := h.f0
  have hjm : j ∈ l1 ++ j :: l2 := by simp
  have hj := h.inR hjm
  have hem : e ∈ L :: (l1 ++ j :: l2).map E := by rw [he]; exact List.mem_cons_of_mem _ (List.mem_map.2 ⟨j, hjm, rfl⟩)
  have heL : e ≠ L := by rw [he]; exact h.neL j (by omega) hj.2
  have hLn := h.Lnot
  have hmn := h.mapNd
  rw [List.map_append, List.map_cons, ← he] at hd hLn hmn
  have hsub : ∀ b, b ∈ L :: (m1 ++ m2).map E → b ∈ L :: (l1 ++ j :: l2).map E ∧ b ≠ e := fun b hb => by
    rw [← hr, List.map_append] at hb
    rw [List.map_append, List.map_cons, ← he]
    grind
  have hd1 : Dbl (fun y => if y = p then n else N y) (fun y => if y = n then p else P y) L ((m1 ++ m2).map E) L := by
    rw [← hr, List.map_append]
    exact dbl_del hd (by simp only [List.nodup_cons]; grind) (fun y _ => by rw [hp, hn]) (fun y _ => by rw [hp, hn])
  have ham : a ∈ L :: (m1 ++ m2).map E := by
    rw [ha, List.map_append]
    have := lastOf_mem L (m1.map E)
    simp only [List.mem_cons, List.mem_append] at this ⊢
    rcases this with h | h
    · exact Or.inl h
    · exact Or.inr (Or.inl h)
  have hqm : q ∈ L :: (m1 ++ m2).map E := by rw [hq]; exact (ring_next hd1 ham).1
  have hne := (h.node hem)
  have hnp := (h.node (by rw [hp, List.map_append, List.map_cons, ← he]; exact (ring_prev hd (by rw [List.map_append, List.map_cons, ← he] at hem; exact hem)).1 : p ∈ _))
  have hnn := (h.node (by rw [hn, List.map_append, List.map_cons, ← he]; exact (ring_next hd (by rw [List.map_append, List.map_cons, ← he] at hem; exact hem)).1 : n ∈ _))
  have hna := (h.node (hsub a ham).1)
  have hnq := (h.node (hsub q hqm).1)
  refine ⟨?_, (((((((Fr.refl S n0 w).set hnp _ _).set hnn _ _).set hne _ _).set hne _ _).set hna _ _).set hnq _ _).drew.drew⟩
  have hcell : ∀ b i, (((((((w.setCell ⟨p, 0, none⟩ (vP n)).setCell ⟨n, 1, none⟩ (vP p)).setCell ⟨e, 1, none⟩ (vP a)).setCell ⟨e, 0, none⟩ (vP q)).setCell ⟨a, 0, none⟩ (vP e)).setCell ⟨q, 1, none⟩ (vP e)).drew.drew).cell? ⟨b, i, none⟩ =
      if b = q ∧ i = 1 then some (vP e) else if b = a ∧ i = 0 then some (vP e) else if b = e ∧ i = 0 then some (vP q) else if b = e ∧ i = 1 then some (vP a) else if b = n ∧ i = 1 then some (vP p) else if b = p ∧ i = 0 then some (vP n) else w.cell? ⟨b, i, none⟩ := fun b i => by
    rw [cell_drew2]
    rw [cs2 (Nd.isSome (k := 4) (by repeat' apply Nd.set
                                    all_goals assumption) (by decide)), cs2 (Nd.isSome (k := 4) (by repeat' apply Nd.set
                                                                                                    all_goals assumption) (by decide)), cs2 (Nd.isSome (k := 4) (by repeat' apply Nd.set
                                                                                                                                                                    all_goals assumption) (by decide)),
      cs2 (Nd.isSome (k := 4) (by repeat' apply Nd.set
                                  all_goals assumption) (by decide)), cs2 (Nd.isSome (k := 4) (by repeat' apply Nd.set
                                                                                                  all_goals assumption) (by decide)), cs2 (Nd.isSome (k := 4) hnp (by decide))]
  have hnd : ∀ k b, Nd S n0 k w b → Nd S n0 k ((((((w.setCell ⟨p, 0, none⟩ (vP n)).setCell ⟨n, 1, none⟩ (vP p)).setCell ⟨e, 1, none⟩ (vP a)).setCell ⟨e, 0, none⟩ (vP q)).setCell ⟨a, 0, none⟩ (vP e)).setCell ⟨q, 1, none⟩ (vP e)).drew.drew b := fun k b hb => by
    apply Nd.drew
    apply Nd.drew
    repeat' apply Nd.set
    exact hb
  generalize ((((((w.setCell ⟨p, 0, none⟩ (vP n)).setCell ⟨n, 1, none⟩ (vP p)).setCell ⟨e, 1, none⟩ (vP a)).setCell ⟨e, 0, none⟩ (vP q)).setCell ⟨a, 0, none⟩ (vP e)).setCell ⟨q, 1, none⟩ (vP e)).drew.drew = w' at hcell hnd ⊢
  have hlen : (m1 ++ j :: m2).length = (l1 ++ j :: l2).length := by
    have := congrArg List.length hr
    simp at this ⊢; omega
  have hmem : ∀ i, i ∈ m1 ++ j :: m2 ↔ i ∈ l1 ++ j :: l2 := fun i => by
    have h1 : i ∈ m1 ++ m2 ↔ i ∈ l1 ++ l2 := by rw [hr]
    grind
  have hrd : (m1 ++ m2).Nodup ∧ j ∉ m1 ++ m2 := by
    rw [← hr]
    have := h.nd
    grind
  refine ⟨hnd _ _ h.hL, fun j h0 h1 => hnd _ _ (h.hE j h0 h1), h.inj, h.neL, ?_, ?_, fun i hi => h.mem i ((hmem i).1 hi), h.f0,
    ⟨fun y => if y = a then e else if y = e then q else if y = p then n else N y, fun y => if y = q then e else if y = e then a else if y = n then p else P y, ?_, fun b hb => ?_⟩, fun i h0 h1 => ?_, fun i h0 h1 => ?_⟩
  · rw [hcell, if_neg (by omega), if_neg (by omega), if_neg (by omega), if_neg (by omega), if_neg (by omega), if_neg (by omega), h.len, hlen]
  · grind
  · rw [List.map_append, List.map_cons, ← he]
    rw [List.map_append] at hd1
    have hnx : (L :: e :: (List.map E m1 ++ List.map E m2)).Nodup := by
      have e1 : List.map E m1 ++ List.map E m2 = List.map E l1 ++ List.map E l2 := by rw [← List.map_append, ← List.map_append, hr]
      rw [e1]
      simp only [List.nodup_cons]
      grind
    refine dbl_ins hd1 hnx (fun y _ => ?_) (fun y _ => ?_)
    · rw [← ha, hq]
    · rw [← ha, ← hq]
  · have hb' : b = e ∨ b ∈ L :: (m1 ++ m2).map E := by
      rw [List.map_append, List.map_cons, ← he] at hb
      rw [List.map_append]
      grind
    have hbe : b ≠ e → b ∈ L :: (l1 ++ j :: l2).map E := fun h => (hsub b (hb'.resolve_left h)).1
    clear hb hb'
    dsimp only
    rw [hcell, hcell]
    constructor
    · rw [if_neg (by omega)]
      by_cases h1 : b = a
      · rw [if_pos ⟨h1, rfl⟩, if_pos h1]
      · rw [if_neg (fun h => h1 h.1), if_neg h1]
        by_cases h2 : b = e
        · rw [if_pos ⟨h2, rfl⟩, if_pos h2]
        · rw [if_neg (fun h => h2 h.1), if_neg h2, if_neg (by omega), if_neg (by omega)]
          by_cases h3 : b = p
          · rw [if_pos ⟨h3, rfl⟩, if_pos h3]
          · rw [if_neg (fun h => h3 h.1), if_neg h3]
            exact (hcs b (hbe h2)).1
    · by_cases h1 : b = q
      · rw [if_pos ⟨h1, rfl⟩, if_pos h1]
      · rw [if_neg (fun h => h1 h.1), if_neg h1, if_neg (by omega), if_neg (by omega)]
        by_cases h2 : b = e
        · rw [if_pos ⟨h2, rfl⟩, if_pos h2]
        · rw [if_neg (fun h => h2 h.1), if_neg h2]
          by_cases h3 : b = n
          · rw [if_pos ⟨h3, rfl⟩, if_pos h3]
          · rw [if_neg (fun h => h3 h.1), if_neg h3, if_neg (by omega)]
            exact (hcs b (hbe h2)).2
  · rw [hcell, if_neg (by omega), if_neg (by omega), if_neg (by omega), if_neg (by omega), if_neg (by omega), if_neg (by omega), h.lst i h0 h1]
    simp only [hmem]
  · rw [hcell, if_neg (by omega), if_neg (by omega), if_neg (by omega), if_neg (by omega), if_neg (by omega), if_neg (by omega)]
    exact h.val i h0 h1

/-- Init: none is left. -/
theorem Lst.clear (h : Lst V S n0 w L E m f r) :
    Lst V S n0 (((w.setCell ⟨L, 0, none⟩ (vP L)).setCell ⟨L, 1, none⟩ (vP L)).setCell ⟨L, 4, none⟩ (.int .i64 0)) L E m m [] ∧
      Fr S n0 w (((w.setCell ⟨L, 0, none⟩ (vP L)).setCell ⟨L, 1, none⟩ (vP L)).setCell ⟨L, 4, none⟩ (.int .i64 0)) := by
  have hf := h.f0
  have hnL := h.hL
  refine ⟨?_, (((Fr.refl S n0 w).set h.hL _ _).set h.hL _ _).set h.hL _ _⟩
  have hcell : ∀ b i, (((w.setCell ⟨L, 0, none⟩ (vP L)).setCell ⟨L, 1, none⟩ (vP L)).setCell ⟨L, 4, none⟩ (.int .i64 0)).cell? ⟨b, i, none⟩ =
      if b = L ∧ i = 4 then some (.int .i64 0) else if b = L ∧ i = 1 then some (vP L) else if b = L ∧ i = 0 then some (vP L) else w.cell? ⟨b, i, none⟩ := fun b i => by
    rw [cs2 (Nd.isSome (k := 5) (by repeat' apply Nd.set
                                    all_goals assumption) (by decide)), cs2 (Nd.isSome (k := 5) (by repeat' apply Nd.set
                                                                                                    all_goals assumption) (by decide)), cs2 (Nd.isSome (k := 5) hnL (by decide))]
  have hnd : ∀ k b, Nd S n0 k w b → Nd S n0 k (((w.setCell ⟨L, 0, none⟩ (vP L)).setCell ⟨L, 1, none⟩ (vP L)).setCell ⟨L, 4, none⟩ (.int .i64 0)) b := fun k b hb => by
    repeat' apply Nd.set
    exact hb
  generalize ((w.setCell ⟨L, 0, none⟩ (vP L)).setCell ⟨L, 1, none⟩ (vP L)).setCell ⟨L, 4, none⟩ (.int .i64 0) = w' at hcell hnd ⊢
  refine ⟨hnd _ _ h.hL, fun j h0 h1 => hnd _ _ (h.hE j h0 h1), h.inj, h.neL, ?_, List.nodup_nil, fun i hi => by simp at hi, by omega,
    ⟨fun _ => L, fun _ => L, ⟨rfl, rfl⟩, fun b hb => ?_⟩, fun i h0 h1 => by omega, fun i h0 h1 => ?_⟩
  · rw [hcell, if_pos ⟨rfl, rfl⟩]; rfl
  · obtain rfl : b = L := by simpa using hb
    rw [hcell, hcell, if_neg (by omega), if_neg (by omega), if_pos ⟨rfl, rfl⟩, if_neg (by omega), if_pos ⟨rfl, rfl⟩]
    exact ⟨rfl, rfl⟩
  · rw [hcell, if_neg (by omega), if_neg (by omega), if_neg (by omega)]
    exact h.val i h0 h1
end
end Go.Proofs.Ytglgmkikegbchaa
