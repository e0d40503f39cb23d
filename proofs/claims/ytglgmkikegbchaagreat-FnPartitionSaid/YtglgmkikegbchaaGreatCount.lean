/- A map that counts: 'many[x]++', 'many[x]--', and a range over it. -/
import Derived.Test.YtglgmkikegbchaaGreatBase
import Derived.Maps.RangeWalk
import Derived.Maps.Own
import Derived.WideKeyEntry
import Derived.DeepKeys4
namespace Go.Proofs.YtglgmkikegbchaaGreat
open Go.RowKit Go.Maps Go.ChangeMaps
open Go.WideMaps (KeyLaw)

section
variable {κ : Type} {P : Program} {t k e : TypeId}

/-- Block b is a map that tells of each key how many. -/
def CM (mk : κ → Value) (ok : κ → Prop) (w : World) (b : Nat) (c : κ → Int) : Prop :=
  ∃ es clock, w.heap[b]? = some (.map es clock) ∧ MapKept.Stamped es clock ∧ (∀ x ∈ es.toList, ∃ y, ok y ∧ x.key = mk y ∧ x.val = .int .i64 (c y)) ∧ (∀ y, ok y → (∀ x ∈ es.toList, x.key ≠ mk y) → c y = 0)

variable {mk : κ → Value} {ok : κ → Prop} {w : World} {b : Nat} {c : κ → Int}

theorem CM.lt (h : CM mk ok w b c) : b < w.heap.size := by
  obtain ⟨es, clock, hb, _⟩ := h
  rcases Nat.lt_or_ge b w.heap.size with h | h
  · exact h
  · rw [Array.getElem?_eq_none h] at hb; cases hb
theorem CM.of_block {w' : World} (h : CM mk ok w b c) (hb : w'.heap[b]? = w.heap[b]?) : CM mk ok w' b c := by
  obtain ⟨es, clock, h1, r⟩ := h
  exact ⟨es, clock, hb.trans h1, r⟩
theorem cm_made (w : World) : CM mk ok (w.alloc (.map #[] 0)) w.heap.size (fun _ => 0) :=
  ⟨#[], 0, by have := heap_alloc_new w (.map #[] 0); exact this, MapKept.stamped_empty _, fun x h => by simp at h, fun _ _ _ => rfl⟩

theorem heap_setBlock {w : World} {b : Nat} {es es' : Array MapEntry} {c c' : Nat} (h : w.heap[b]? = some (.map es c)) : (setBlock w b (.map es' c')).heap[b]? = some (.map es' c') := heap_setBlock_same h _

/-- What one round of counting does: the look-up, the entry's place, the store, in whatever order the first two come. -/
theorem cm_step [DecidableEq κ] (K : Keyed P k) (ht : P.underlying t = some (.map k e)) (hz : ∀ u : World, (zeroValue e).run P u = .ok (.int .i64 0) u) (inj : ∀ x y, mk x = mk y → x = y) (hok : ∀ x, ok x → ∃ l, keyOf P k (mk x) = some l)
    (h : CM mk ok w b c) (x : κ) (hx : ok x) :
    ∃ (st : Nat) (w1 : World), (Instr.lookup t (.map (some b)) (mk x) false).run P w = .ok (.int .i64 (c x)) w ∧ (Instr.mapEntry t (.map (some b)) (mk x)).run P w = .ok (.tuple #[.int .i64 (c x), .int .i64 st]) w1 ∧
      (Instr.lookup t (.map (some b)) (mk x) false).run P w1 = .ok (.int .i64 (c x)) w1 ∧ w.grownBy w1 (some b) ∧ w1.heap.size = w.heap.size ∧
      ∀ n : Int, ∃ w2, (Instr.entryStore t (.map (some b)) (.int .i64 st) (.int .i64 n)).run P w1 = .ok () w2 ∧ CM mk ok w2 b (fun y => if y = x then n else c y) ∧ w.grownBy w2 (some b) ∧ w2.heap.size = w.heap.size := by
  obtain ⟨es, clock, hb, hS, hv, h0⟩ := h
  obtain ⟨s1, s2, s3⟩ := hS
  obtain ⟨kl, hkey⟩ := hok x hx
  have hkeys : ∀ y ∈ es.toList, ∃ l, keyOf P k y.key = some l := fun y hy => by
    obtain ⟨z, hz, e, _⟩ := hv y hy
    rw [e]
    exact hok z hz
  have gb : ∀ (es' : Array MapEntry) (c' : Nat), w.grownBy (setBlock w b (.map es' c')) (some b) := fun es' c' => ⟨rfl, rfl, rfl, by simp [setBlock], fun i _ hi => heap_setBlock_other hb _ (fun e => hi (by rw [e]))⟩
  rcases K.find w hkey es.toList hkeys with ⟨h1, h2⟩ | ⟨j, e0, h1, h2, h3⟩
  · have hcx : c x = 0 := h0 x hx h2
    obtain ⟨W1, hW1⟩ : ∃ W1, W1 = setBlock w b (.map (es.push ⟨mk x, .int .i64 0, clock⟩) (clock + 1)) := ⟨_, rfl⟩
    have hb1 : W1.heap[b]? = some (.map (es.push ⟨mk x, .int .i64 0, clock⟩) (clock + 1)) := by rw [hW1]; exact heap_setBlock hb
    have g1 : w.grownBy W1 (some b) := by rw [hW1]; exact gb _ _
    have z1 : W1.heap.size = w.heap.size := by rw [hW1]; simp [setBlock]
    have gc : ∀ (es' : Array MapEntry) (c' : Nat), w.grownBy (setBlock W1 b (.map es' c')) (some b) := fun es' c' => g1.trans ⟨rfl, rfl, rfl, by simp [setBlock], fun i _ hi => heap_setBlock_other hb1 _ (fun e => hi (by rw [e]))⟩
    refine ⟨clock, W1, ?_, ?_, ?_, g1, z1, fun n => ⟨setBlock W1 b (.map (es.push ⟨mk x, .int .i64 n, clock⟩) (clock + 1)), ?_, ?_, gc _ _, by rw [← z1]; simp [setBlock]⟩⟩
    · rw [hcx]
      simp [Instr.lookup, run_underlying ht, MapKept.run_getObj_map hb, K.check w _ hkey, h1, hz, Result.andThen]
    · rw [hcx]
      simp [Instr.mapEntry, run_underlying ht, MapKept.run_getObj_map hb, K.check w false hkey, h1, hz, MapKept.run_setObj_map _ hb, Result.andThen, goInt, hW1, setBlock]
    · rw [hcx]
      rcases K.find W1 hkey (es.push ⟨mk x, .int .i64 0, clock⟩).toList (fun y hy => by
          simp only [Array.toList_push, List.mem_append, List.mem_singleton] at hy
          rcases hy with hy | rfl
          · exact hkeys y hy
          · exact ⟨kl, hkey⟩) with ⟨_, g2⟩ | ⟨j, e0, g1, g2, g3⟩
      · exact absurd rfl (g2 ⟨mk x, .int .i64 0, clock⟩ (by simp))
      · have hm := List.mem_of_getElem? g2
        simp only [Array.toList_push, List.mem_append, List.mem_singleton] at hm
        rcases hm with hm | rfl
        · exact absurd g3 (h2 e0 hm)
        · simp only [Array.toList_push] at g1
          simp [Instr.lookup, run_underlying ht, MapKept.run_getObj_map hb1, K.check _ _ hkey, g1, Result.andThen]
    · have hidx : (es.push ⟨mk x, .int .i64 0, clock⟩).findIdx? (fun e => ((e.born : Nat) : Int) == ((clock : Nat) : Int)) = some es.size := by
        rw [WideElems.findIdx_arr]
        have := WideElems.findIdx_born (l := (es.push ⟨mk x, .int .i64 0, clock⟩).toList) (j := es.size) (e0 := ⟨mk x, .int .i64 0, clock⟩) (by
          simp only [Array.toList_push, List.map_append, List.map_cons, List.map_nil]
          refine List.nodup_append.2 ⟨s2, by simp, fun a ha c hc e1 => ?_⟩
          simp only [List.mem_singleton] at hc
          obtain ⟨x, hx, rfl⟩ := List.mem_map.1 ha
          have := s1 x hx
          omega) (by simp)
        exact this
      have hmod : (es.push ⟨mk x, .int .i64 0, clock⟩).modify es.size (fun e => { e with val := .int .i64 n }) = es.push ⟨mk x, .int .i64 n, clock⟩ := by
        apply Array.ext'
        rw [Array.toList_modify, Array.toList_push, Array.toList_push, ← Array.length_toList, WideElems.modify_last]
      simp [Instr.entryStore, MapKept.run_getObj_map hb1, asInt, asIntOf, hidx, hmod, MapKept.run_setObj_map _ hb1, Result.andThen, setBlock]
    · refine ⟨_, _, heap_setBlock hb1, ?_, fun y hy => ?_, fun y hy hn => ?_⟩
      · refine ⟨fun y hy => ?_, ?_, ?_⟩
        · simp only [Array.toList_push, List.mem_append, List.mem_singleton] at hy
          rcases hy with hy | rfl
          · have := s1 y hy; omega
          · show clock < clock + 1; omega
        · simp only [Array.toList_push, List.map_append, List.map_cons, List.map_nil]
          refine List.nodup_append.2 ⟨s2, by simp, fun a ha c hc e1 => ?_⟩
          simp only [List.mem_singleton] at hc
          obtain ⟨x, hx, rfl⟩ := List.mem_map.1 ha
          have := s1 x hx
          omega
        · simp only [Array.toList_push, List.map_append, List.map_cons, List.map_nil]
          refine List.nodup_append.2 ⟨s3, by simp, fun a ha c hc e1 => ?_⟩
          simp only [List.mem_singleton] at hc
          obtain ⟨y, hy, rfl⟩ := List.mem_map.1 ha
          exact h2 y hy (e1.trans hc)
      · simp only [Array.toList_push, List.mem_append, List.mem_singleton] at hy
        rcases hy with hy | rfl
        · obtain ⟨z, hz, e1, e2⟩ := hv y hy
          have hne : z ≠ x := fun e3 => h2 y hy (by rw [e1, e3])
          exact ⟨z, hz, e1, by rw [e2]; simp [hne]⟩
        · exact ⟨x, hx, rfl, by simp⟩
      · by_cases e1 : y = x
        · subst e1
          exact absurd rfl (hn ⟨mk y, .int .i64 n, clock⟩ (by simp))
        · simp only [e1, if_false]
          exact h0 y hy (fun z hz => hn z (by simp [hz]))
  · have hm0 : e0 ∈ es.toList := List.mem_of_getElem? h2
    obtain ⟨z, hzz, e1, e2⟩ := hv e0 hm0
    have hzx : z = x := inj _ _ (e1.symm.trans h3)
    subst hzx
    have hj : es[j]? = some e0 := by simpa using h2
    have hsame : es.modify j (fun e => { e with key := mk z }) = es := by
      apply Array.ext'
      rw [Array.toList_modify, modify_eq_set _ _ _ _ h2]
      have : ({ e0 with key := mk z } : MapEntry) = e0 := by rw [← h3]
      rw [this]
      exact WideElems.set_self _ _ _ h2
    obtain ⟨W1, hW1⟩ : ∃ W1, W1 = setBlock w b (.map es clock) := ⟨_, rfl⟩
    have hb1 : W1.heap[b]? = some (.map es clock) := by rw [hW1]; exact heap_setBlock hb
    have g1 : w.grownBy W1 (some b) := by rw [hW1]; exact gb _ _
    have z1 : W1.heap.size = w.heap.size := by rw [hW1]; simp [setBlock]
    have gc : ∀ (es' : Array MapEntry) (c' : Nat), w.grownBy (setBlock W1 b (.map es' c')) (some b) := fun es' c' => g1.trans ⟨rfl, rfl, rfl, by simp [setBlock], fun i _ hi => heap_setBlock_other hb1 _ (fun e => hi (by rw [e]))⟩
    refine ⟨e0.born, W1, ?_, ?_, ?_, g1, z1, fun n => ⟨setBlock W1 b (.map (es.modify j fun e' => { e' with val := .int .i64 n }) clock), ?_, ?_, gc _ _, by rw [← z1]; simp [setBlock]⟩⟩
    · simp [Instr.lookup, run_underlying ht, MapKept.run_getObj_map hb, K.check w _ hkey, h1, e2, Result.andThen]
    · simp [Instr.mapEntry, run_underlying ht, MapKept.run_getObj_map hb, K.check w false hkey, h1, hj, h3, K.stays w hkey, hsame, MapKept.run_setObj_map _ hb, Result.andThen, goInt, e2, hW1, setBlock]
    · rcases K.find W1 hkey es.toList hkeys with ⟨_, g2⟩ | ⟨j', e', g1, g2, g3⟩
      · exact absurd h3 (g2 e0 hm0)
      · obtain ⟨z', hz', f1, f2⟩ := hv e' (List.mem_of_getElem? g2)
        have : z' = z := inj _ _ (f1.symm.trans g3)
        subst this
        simp [Instr.lookup, run_underlying ht, MapKept.run_getObj_map hb1, K.check _ _ hkey, g1, f2, Result.andThen]
    · have hidx : es.findIdx? (fun e => ((e.born : Nat) : Int) == ((e0.born : Nat) : Int)) = some j := by
        rw [WideElems.findIdx_arr]
        exact WideElems.findIdx_born s2 h2
      simp [Instr.entryStore, MapKept.run_getObj_map hb1, asInt, asIntOf, hidx, MapKept.run_setObj_map _ hb1, Result.andThen, setBlock]
    · have hset : (es.modify j fun e' => { e' with val := .int .i64 n }).toList = es.toList.set j { e0 with val := .int .i64 n } := by
        rw [Array.toList_modify, modify_eq_set _ _ _ _ h2]
      have hmem : ∀ y ∈ es.toList.set j { e0 with val := Value.int .i64 n }, y = { e0 with val := .int .i64 n } ∨ (y ∈ es.toList ∧ y.key ≠ e0.key) := fun y hy => by
        obtain ⟨i, hi, hyi⟩ := List.getElem_of_mem hy
        rw [List.getElem_set] at hyi
        by_cases e : j = i
        · rw [if_pos e] at hyi; exact Or.inl hyi.symm
        · rw [if_neg e] at hyi
          refine Or.inr ⟨by rw [← hyi]; exact List.getElem_mem _, fun ek => e ?_⟩
          have hi' : i < es.toList.length := by simpa using hi
          obtain ⟨hjl, hje⟩ := List.getElem?_eq_some_iff.1 h2
          have a1 : (es.toList.map (·.key))[j]? = (es.toList.map (·.key))[i]? := by
            rw [List.getElem?_map, List.getElem?_map, h2, List.getElem?_eq_getElem hi', hyi]
            simp [ek]
          have nd : ∀ (i j : Nat), i < j → j < (es.toList.map (·.key)).length → (es.toList.map (·.key))[i]? ≠ (es.toList.map (·.key))[j]? := fun i j hij hj he => by
            have := List.pairwise_iff_getElem.1 s3 i j (by omega) hj hij
            rw [List.getElem?_eq_getElem (by omega), List.getElem?_eq_getElem hj] at he
            exact this (Option.some.inj he)
          rcases Nat.lt_trichotomy j i with h | h | h
          · exact absurd a1 (nd j i h (by simpa using hi'))
          · exact h
          · exact absurd a1.symm (nd i j h (by simpa using hjl))
      have hk : ∀ f : MapEntry → Value, (∀ v, f { e0 with val := v } = f e0) → (es.toList.set j { e0 with val := Value.int .i64 n }).map f = es.toList.map f := fun f hf => by
        rw [List.map_set, hf]
        exact WideElems.set_self _ _ _ (by rw [List.getElem?_map, h2]; rfl)
      refine ⟨_, _, heap_setBlock hb1, ?_, fun y hy => ?_, fun y hy hn => ?_⟩
      · unfold MapKept.Stamped
        rw [hset]
        refine ⟨fun y hy => ?_, ?_, ?_⟩
        · rcases hmem y hy with rfl | ⟨h, _⟩
          · exact s1 e0 hm0
          · exact s1 y h
        · rw [List.map_set]
          rw [WideElems.set_self _ _ _ (by rw [List.getElem?_map, h2]; rfl)]
          exact s2
        · rw [hk (·.key) (fun _ => rfl)]; exact s3
      · rw [hset] at hy
        rcases hmem y hy with rfl | ⟨h, hne⟩
        · exact ⟨z, hzz, h3, by simp⟩
        · obtain ⟨z', hz', f1, f2⟩ := hv y h
          have : z' ≠ z := fun e => hne (by rw [f1, e, ← h3])
          exact ⟨z', hz', f1, by rw [f2]; simp [this]⟩
      · rw [hset] at hn
        by_cases e3 : y = z
        · subst e3
          refine absurd h3 (hn { e0 with val := .int .i64 n } ?_)
          obtain ⟨hjl, _⟩ := List.getElem?_eq_some_iff.1 h2
          exact List.mem_iff_getElem.2 ⟨j, by simpa using hjl, by simp⟩
        · simp only [e3, if_false]
          refine h0 y hy (fun x' hx' ex => ?_)
          obtain ⟨i, hi, hxi⟩ := List.getElem_of_mem hx'
          by_cases e : j = i
          · subst e
            obtain ⟨hjl, hje⟩ := List.getElem?_eq_some_iff.1 h2
            rw [hje] at hxi
            rw [← hxi, h3] at ex
            exact e3 (inj _ _ ex).symm
          · exact hn x' (List.mem_iff_getElem.2 ⟨i, by simpa using hi, by rw [List.getElem_set, if_neg e]; exact hxi⟩) ex

/-- A range over a map of which every count is 0 is under way: how many entries are left. -/
def RZ (mk : κ → Value) (w : World) (b r g : Nat) : Prop :=
  ∃ es clock since seen c0, w.heap[b]? = some (.map es clock) ∧ (es.toList.map (·.born)).Nodup ∧ (∀ x ∈ es.toList, ∃ y, x.key = mk y ∧ x.val = .int .i64 0) ∧
    w.heap[r]? = some (.mapIter (some b) since seen c0) ∧ (∀ x ∈ es.toList, x.born < since) ∧ since ≤ c0 ∧ since ≤ clock ∧ (leftOf es seen).size = g

theorem rz_range (ht : P.underlying t = some (.map k e)) (h : CM mk ok w b c) (h0 : ∀ y, c y = 0) :
    ∃ w' g, (Instr.range t (.map (some b))).run P w = .ok (.pointer (some ⟨w.heap.size, 0, none⟩)) w' ∧ RZ mk w' b w.heap.size g ∧ Below w.heap.size w w' := by
  have hlt := h.lt
  obtain ⟨es, clock, hb, ⟨s1, s2, _⟩, hv, _⟩ := h
  refine ⟨_, _, run_range_map w t k e b es clock ht hb, ⟨es, clock, clock, #[], clock, ((MapKept.heap_alloc w _).2 b hlt).trans hb, s2, fun x hx => ?_, (MapKept.heap_alloc w _).1, s1, Nat.le_refl _, Nat.le_refl _, rfl⟩, below_alloc _ _⟩
  obtain ⟨y, _, e1, e2⟩ := hv x hx
  exact ⟨y, e1, by rw [e2, h0]⟩

theorem rz_next {r g : Nat} (h : RZ mk w b r g) (ty : TypeId) :
    (g = 0 ∧ (Instr.next (.pointer (some ⟨r, 0, none⟩)) false ty).run P w = .ok (.tuple #[.bool false]) w) ∨
    ∃ g' y w', g' < g ∧ (Instr.next (.pointer (some ⟨r, 0, none⟩)) false ty).run P w = .ok (.tuple #[.bool true, mk y, .int .i64 0]) w' ∧ RZ mk w' b r g' ∧
      (Instr.entry (.pointer (some ⟨r, 0, none⟩))).run P w' = .ok (.tuple #[mk y, .int .i64 0]) w' ∧ w.grownBy w' (some r) ∧ w'.heap.size = w.heap.size := by
  obtain ⟨es, clock, since, seen, c0, hb, hn, hv, hr, hold, hsc, hsk, hg⟩ := h
  have hne : r ≠ b := fun e => by rw [e, hb] at hr; cases hr
  rcases run_next_at (P := P) w ty r b since c0 seen es clock hr hb hold hsc with ⟨h0, hrun⟩ | ⟨x, hx, w1, hal, hrun⟩
  · exact Or.inl ⟨by omega, hrun⟩
  · obtain ⟨hem, _⟩ := mem_left hx
    obtain ⟨y, e1, e2⟩ := hv x hem
    have hr1 : w1.heap[r]? = some (.mapIter (some b) since seen c0) := by rcases hal with rfl | rfl <;> exact hr
    have hb1 : w1.heap[b]? = some (.map es clock) := by rcases hal with rfl | rfl <;> exact hb
    have hset := MapKept.heap_set (o' := .mapIter (some b) since (seen.push x.born) clock) hr1
    have hb' : (setBlock w1 r (.mapIter (some b) since (seen.push x.born) clock)).heap[b]? = some (.map es clock) := (hset.2 b (fun e1 => hne e1.symm)).trans hb1
    have hen := run_entry_at (P := P) _ r b since seen es clock x hset.1 hb' hem hn
    rw [e1, e2] at hrun hen
    refine Or.inr ⟨_, y, _, ?_, hrun, ⟨es, clock, since, seen.push x.born, clock, hb', hn, hv, hset.1, hold, hsk, hsk, rfl⟩, hen, ?_, ?_⟩
    · rw [← hg]; exact left_shrinks es seen x hx
    · rcases hal with rfl | rfl <;> exact ⟨rfl, rfl, rfl, by simp [setBlock], fun i _ hi => hset.2 i (fun e1 => hi (by rw [e1]))⟩
    · rcases hal with rfl | rfl <;> simp [setBlock]

theorem wpList_next_rz {ops : Array Oper} {rest : List Oper} {o : Oper} {a : Act} {Q : Exit → Act → World → Prop} {r g : Nat} (h : Aside (RZ mk w b r g)) (hg : o.guard = none) (it : Operand) (hop : o.op = Op.next it false) (hit : a.eval it = .pointer (some ⟨r, 0, none⟩))
    (hDone : wpList P ops Q rest (a.put o.dst (.tuple #[.bool false])) w)
    (hMore : ∀ (y : κ) (w' : World) (g' : Nat), g' < g → Aside (RZ mk w' b r g') → (Instr.entry (.pointer (some ⟨r, 0, none⟩))).run P w' = .ok (.tuple #[mk y, .int .i64 0]) w' → Aside (w.grownBy w' (some r)) → wpList P ops Q rest (a.put o.dst (.tuple #[.bool true, mk y, .int .i64 0])) w') :
    wpList P ops Q (o :: rest) a w := by
  refine wpList_plain hg fun K' hK' => ?_
  unfold Oper.wp
  rcases rz_next (P := P) h.out o.type with ⟨_, hrun⟩ | ⟨g', y, w', hlt, hrun, hrz, hen, hgr, _⟩
  · simp [execOp, hop, hit, hrun, Result.andThen]
    exact hK' _ _ hDone
  · simp [execOp, hop, hit, hrun, Result.andThen]
    exact hK' _ _ (hMore y w' g' hlt hrz hen hgr)

theorem wpList_range_cm {ops : Array Oper} {rest : List Oper} {o : Oper} {a : Act} {Q : Exit → Act → World → Prop} (ht : P.underlying t = some (.map k e)) (h : Aside (CM mk ok w b c)) (h0 : ∀ y, c y = 0) (hg : o.guard = none) (m : Operand) (hop : o.op = Op.range t m) (hm : a.eval m = .map (some b))
    (hK : ∀ (w' : World) (g : Nat), Aside (RZ mk w' b w.heap.size g) → Aside (Below w.heap.size w w') → wpList P ops Q rest (a.put o.dst (.pointer (some ⟨w.heap.size, 0, none⟩))) w') :
    wpList P ops Q (o :: rest) a w := by
  refine wpList_plain hg fun K' hK' => ?_
  obtain ⟨w', g, hrun, hrz, hb⟩ := rz_range (P := P) ht h.out h0
  unfold Oper.wp
  simp [execOp, hop, hm, hrun, Result.andThen]
  exact hK' _ _ (hK w' g hrz hb)
end
end Go.Proofs.YtglgmkikegbchaaGreat
