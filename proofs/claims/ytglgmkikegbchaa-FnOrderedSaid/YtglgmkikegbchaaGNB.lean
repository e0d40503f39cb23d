/- Texts of this claim, laid together: Count, aCountU, aConv, aMinMax, aLeast, aInOrder. -/
import Derived.Test.YtglgmkikegbchaaBase
import Derived.Maps.RangeWalk
import Derived.Maps.Own
import Derived.WideKeyEntry
import Derived.DeepKeys4
import Derived.Test.YtglgmkikegbchaaaNums
import Derived.Test.YtglgmkikegbchaaKa
import Derived.Test.YtglgmkikegbchaaWhole0
/- A map that counts: 'many[x]++', 'many[x]--', and a range over it. -/
namespace Go.Proofs.Ytglgmkikegbchaa
open Go.RowKit Go.Maps Go.ChangeMaps
open Go.WideMaps (KeyLaw)

section
variable {κ : Type} {P : Program} {t k e : TypeId}

/-- Block b is a map that tells of each key how many. -/
def CM (mk : κ → Value) (ok : κ → Prop) (w : World) (b : Nat) (c : κ → Int) : Prop :=
  ∃ es clock, w.heap[b]? = some (.map es clock) ∧ MapKept.Stamped es clock ∧ (∀ x ∈ es.toList, ∃ y, ok y ∧ x.key = mk y ∧ x.val = .int .i64 (c y)) ∧ (∀ y, ok y → (∀ x ∈ es.toList, x.key ≠ mk y) → c y = 0)

variable {mk : κ → Value} {ok : κ → Prop} {w : World} {b : Nat} {c : κ → Int}

theorem CM.lt (h : CM mk ok w b c) : b < w.heap.size := by
  obtain ⟨es, clock, hb, _⟩ := h
  rcases Nat.lt_or_ge b w.heap.size with h | h
  · exact h
  · rw [Array.getElem?_eq_none h] at hb; cases hb
theorem CM.of_block {w' : World} (h : CM mk ok w b c) (hb : w'.heap[b]? = w.heap[b]?) : CM mk ok w' b c := by
  obtain ⟨es, clock, h1, r⟩ := h
  exact ⟨es, clock, hb.trans h1, r⟩
theorem cm_made (w : World) : CM mk ok (w.alloc (.map #[] 0)) w.heap.size (fun _ => 0) :=
  ⟨#[], 0, by have := heap_alloc_new w (.map #[] 0); exact this, MapKept.stamped_empty _, fun x h => by simp at h, fun _ _ _ => rfl⟩

theorem heap_setBlock {w : World} {b : Nat} {es es' : Array MapEntry} {c c' : Nat} (h : w.heap[b]? = some (.map es c)) : (setBlock w b (.map es' c')).heap[b]? = some (.map es' c') := heap_setBlock_same h _

/-- What one round of counting does: the look-up, the entry's place, the store, in whatever order the first two come. -/
theorem cm_step [DecidableEq κ] (K : Keyed P k) (ht : P.underlying t = some (.map k e)) (hz : ∀ u : World, (zeroValue e).run P u = .ok (.int .i64 0) u) (inj : ∀ x y, mk x = mk y → x = y) (hok : ∀ x, ok x → ∃ l, keyOf P k (mk x) = some l)
    (h : CM mk ok w b c) (x : κ) (hx : ok x) :
    ∃ (st : Nat) (w1 : World), (Instr.lookup t (.map (some b)) (mk x) false).run P w = .ok (.int .i64 (c x)) w ∧ (Instr.mapEntry t (.map (some b)) (mk x)).run P w = .ok (.tuple #[.int .i64 (c x), .int .i64 st]) w1 ∧
      (Instr.lookup t (.map (some b)) (mk x) false).run P w1 = .ok (.int .i64 (c x)) w1 ∧ w.grownBy w1 (some b) ∧ w1.heap.size = w.heap.size ∧
      ∀ n : Int, ∃ w2, (Instr.entryStore t (.map (some b)) (.int .i64 st) (.int .i64 n)).run P w1 = .ok () w2 ∧ CM mk ok w2 b (fun y => if y = x then n else c y) ∧ w.grownBy w2 (some b) ∧ w2.heap.size = w.heap.size := by
  obtain ⟨es, clock, hb, hS, hv, h0⟩ := h
  obtain ⟨s1, s2, s3⟩ := hS
  obtain ⟨kl, hkey⟩ := hok x hx
  have hkeys : ∀ y ∈ es.toList, ∃ l, keyOf P k y.key = some l := fun y hy => by
    obtain ⟨z, hz, e, _⟩ := hv y hy
    rw [e]
    exact hok z hz
  have gb : ∀ (es' : Array MapEntry) (c' : Nat), w.grownBy (setBlock w b (.map es' c')) (some b) := fun es' c' => ⟨rfl, rfl, rfl, by simp [setBlock], fun i _ hi => heap_setBlock_other hb _ (fun e => hi (by rw [e]))⟩
  rcases K.find w hkey es.toList hkeys with ⟨h1, h2⟩ | ⟨j, e0, h1, h2, h3⟩
  · have hcx : c x = 0 := h0 x hx h2
    obtain ⟨W1, hW1⟩ : ∃ W1, W1 = setBlock w b (.map (es.push ⟨mk x, .int .i64 0, clock⟩) (clock + 1)) := ⟨_, rfl⟩
    have hb1 : W1.heap[b]? = some (.map (es.push ⟨mk x, .int .i64 0, clock⟩) (clock + 1)) := by rw [hW1]; exact heap_setBlock hb
    have g1 : w.grownBy W1 (some b) := by rw [hW1]; exact gb _ _
    have z1 : W1.heap.size = w.heap.size := by rw [hW1]; simp [setBlock]
    have gc : ∀ (es' : Array MapEntry) (c' : Nat), w.grownBy (setBlock W1 b (.map es' c')) (some b) := fun es' c' => g1.trans ⟨rfl, rfl, rfl, by simp [setBlock], fun i _ hi => heap_setBlock_other hb1 _ (fun e => hi (by rw [e]))⟩
    refine ⟨clock, W1, ?_, ?_, ?_, g1, z1, fun n => ⟨setBlock W1 b (.map (es.push ⟨mk x, .int .i64 n, clock⟩) (clock + 1)), ?_, ?_, gc _ _, by rw [← z1]; simp [setBlock]⟩⟩
    · rw [hcx]
      simp [Instr.lookup, run_underlying ht, MapKept.run_getObj_map hb, K.check w _ hkey, h1, hz, Result.andThen]
    · rw [hcx]
      simp [Instr.mapEntry, run_underlying ht, MapKept.run_getObj_map hb, K.check w false hkey, h1, hz, MapKept.run_setObj_map _ hb, Result.andThen, goInt, hW1, setBlock]
    · rw [hcx]
      rcases K.find W1 hkey (es.push ⟨mk x, .int .i64 0, clock⟩).toList (fun y hy => by
          simp only [Array.toList_push, List.mem_append, List.mem_singleton] at hy
          rcases hy with hy | rfl
          · exact hkeys y hy
          · exact ⟨kl, hkey⟩) with ⟨_, g2⟩ | ⟨j, e0, g1, g2, g3⟩
      · exact absurd rfl (g2 ⟨mk x, .int .i64 0, clock⟩ (by simp))
      · have hm := List.mem_of_getElem? g2
        simp only [Array.toList_push, List.mem_append, List.mem_singleton] at hm
        rcases hm with hm | rfl
        · exact absurd g3 (h2 e0 hm)
        · simp only [Array.toList_push] at g1
          simp [Instr.lookup, run_underlying ht, MapKept.run_getObj_map hb1, K.check _ _ hkey, g1, Result.andThen]
    · have hidx : (es.push ⟨mk x, .int .i64 0, clock⟩).findIdx? (fun e => ((e.born : Nat) : Int) == ((clock : Nat) : Int)) = some es.size := by
        rw [WideElems.findIdx_arr]
        have := WideElems.findIdx_born (l := (es.push ⟨mk x, .int .i64 0, clock⟩).toList) (j := es.size) (e0 := ⟨mk x, .int .i64 0, clock⟩) (by
          simp only [Array.toList_push, List.map_append, List.map_cons, List.map_nil]
          refine List.nodup_append.2 ⟨s2, by simp, fun a ha c hc e1 => ?_⟩
          simp only [List.mem_singleton] at hc
          obtain ⟨x, hx, rfl⟩ := List.mem_map.1 ha
          have := s1 x hx
          omega) (by simp)
        exact this
      have hmod : (es.push ⟨mk x, .int .i64 0, clock⟩).modify es.size (fun e => { e with val := .int .i64 n }) = es.push ⟨mk x, .int .i64 n, clock⟩ := by
        apply Array.ext'
        rw [Array.toList_modify, Array.toList_push, Array.toList_push, ← Array.length_toList, WideElems.modify_last]
      simp [Instr.entryStore, MapKept.run_getObj_map hb1, asInt, asIntOf, hidx, hmod, MapKept.run_setObj_map _ hb1, Result.andThen, setBlock]
    · refine ⟨_, _, heap_setBlock hb1, ?_, fun y hy => ?_, fun y hy hn => ?_⟩
      · refine ⟨fun y hy => ?_, ?_, ?_⟩
        · simp only [Array.toList_push, List.mem_append, List.mem_singleton] at hy
          rcases hy with hy | rfl
          · have := s1 y hy; omega
          · show clock < clock + 1; omega
        · simp only [Array.toList_push, List.map_append, List.map_cons, List.map_nil]
          refine List.nodup_append.2 ⟨s2, by simp, fun a ha c hc e1 => ?_⟩
          simp only [List.mem_singleton] at hc
          obtain ⟨x, hx, rfl⟩ := List.mem_map.1 ha
          have := s1 x hx
          omega
        · simp only [Array.toList_push, List.map_append, List.map_cons, List.map_nil]
          refine List.nodup_append.2 ⟨s3, by simp, fun a ha c hc e1 => ?_⟩
          simp only [List.mem_singleton] at hc
          obtain ⟨y, hy, rfl⟩ := List.mem_map.1 ha
          exact h2 y hy (e1.trans hc)
      · simp only [Array.toList_push, List.mem_append, List.mem_singleton] at hy
        rcases hy with hy | rfl
        · obtain ⟨z, hz, e1, e2⟩ := hv y hy
          have hne : z ≠ x := fun e3 => h2 y hy (by rw [e1, e3])
          exact ⟨z, hz, e1, by rw [e2]; simp [hne]⟩
        · exact ⟨x, hx, rfl, by simp⟩
      · by_cases e1 : y = x
        · subst e1
          exact absurd rfl (hn ⟨mk y, .int .i64 n, clock⟩ (by simp))
        · simp only [e1, if_false]
          exact h0 y hy (fun z hz => hn z (by simp [hz]))
  · have hm0 : e0 ∈ es.toList := List.mem_of_getElem? h2
    obtain ⟨z, hzz, e1, e2⟩ := hv e0 hm0
    have hzx : z = x := inj _ _ (e1.symm.trans h3)
    subst hzx
    have hj : es[j]? = some e0 := by simpa using h2
    have hsame : es.modify j (fun e => { e with key := mk z }) = es := by
      apply Array.ext'
      rw [Array.toList_modify, modify_eq_set _ _ _ _ h2]
      have : ({ e0 with key := mk z } : MapEntry) = e0 := by rw [← h3]
      rw [this]
      exact WideElems.set_self _ _ _ h2
    obtain ⟨W1, hW1⟩ : ∃ W1, W1 = setBlock w b (.map es clock) := ⟨_, rfl⟩
    have hb1 : W1.heap[b]? = some (.map es clock) := by rw [hW1]; exact heap_setBlock hb
    have g1 : w.grownBy W1 (some b) := by rw [hW1]; exact gb _ _
    have z1 : W1.heap.size = w.heap.size := by rw [hW1]; simp [setBlock]
    have gc : ∀ (es' : Array MapEntry) (c' : Nat), w.grownBy (setBlock W1 b (.map es' c')) (some b) := fun es' c' => g1.trans ⟨rfl, rfl, rfl, by simp [setBlock], fun i _ hi => heap_setBlock_other hb1 _ (fun e => hi (by rw [e]))⟩
    refine ⟨e0.born, W1, ?_, ?_, ?_, g1, z1, fun n => ⟨setBlock W1 b (.map (es.modify j fun e' => { e' with val := .int .i64 n }) clock), ?_, ?_, gc _ _, by rw [← z1]; simp [setBlock]⟩⟩
    · simp [Instr.lookup, run_underlying ht, MapKept.run_getObj_map hb, K.check w _ hkey, h1, e2, Result.andThen]
    · simp [Instr.mapEntry, run_underlying ht, MapKept.run_getObj_map hb, K.check w false hkey, h1, hj, h3, K.stays w hkey, hsame, MapKept.run_setObj_map _ hb, Result.andThen, goInt, e2, hW1, setBlock]
    · rcases K.find W1 hkey es.toList hkeys with ⟨_, g2⟩ | ⟨j', e', g1, g2, g3⟩
      · exact absurd h3 (g2 e0 hm0)
      · obtain ⟨z', hz', f1, f2⟩ := hv e' (List.mem_of_getElem? g2)
        have : z' = z := inj _ _ (f1.symm.trans g3)
        subst this
        simp [Instr.lookup, run_underlying ht, MapKept.run_getObj_map hb1, K.check _ _ hkey, g1, f2, Result.andThen]
    · have hidx : es.findIdx? (fun e => ((e.born : Nat) : Int) == ((e0.born : Nat) : Int)) = some j := by
        rw [WideElems.findIdx_arr]
        exact WideElems.findIdx_born s2 h2
      simp [Instr.entryStore, MapKept.run_getObj_map hb1, asInt, asIntOf, hidx, MapKept.run_setObj_map _ hb1, Result.andThen, setBlock]
    · have hset : (es.modify j fun e' => { e' with val := .int .i64 n }).toList = es.toList.set j { e0 with val := .int .i64 n } := by
        rw [Array.toList_modify, modify_eq_set _ _ _ _ h2]
      have hmem : ∀ y ∈ es.toList.set j { e0 with val := Value.int .i64 n }, y = { e0 with val := .int .i64 n } ∨ (y ∈ es.toList ∧ y.key ≠ e0.key) := fun y hy => by
        obtain ⟨i, hi, hyi⟩ := List.getElem_of_mem hy
        rw [List.getElem_set] at hyi
        by_cases e : j = i
        · rw [if_pos e] at hyi; exact Or.inl hyi.symm
        · rw [if_neg e] at hyi
          refine Or.inr ⟨by rw [← hyi]; exact List.getElem_mem _, fun ek => e ?_⟩
          have hi' : i < es.toList.length := by simpa using hi
          obtain ⟨hjl, hje⟩ := List.getElem?_eq_some_iff.1 h2
          have a1 : (es.toList.map (·.key))[j]? = (es.toList.map (·.key))[i]? := by
            rw [List.getElem?_map, List.getElem?_map, h2, List.getElem?_eq_getElem hi', hyi]
            simp [ek]
          have nd : ∀ (i j : Nat), i < j → j < (es.toList.map (·.key)).length → (es.toList.map (·.key))[i]? ≠ (es.toList.map (·.key))[j]? := fun i j hij hj he => by
            have := List.pairwise_iff_getElem.1 s3 i j (by omega) hj hij
            rw [List.getElem?_eq_getElem (by omega), List.getElem?_eq_getElem hj] at he
            exact this (Option.some.inj he)
          rcases Nat.lt_trichotomy j i with h | h | h
          · exact absurd a1 (nd j i h (by simpa using hi'))
          · exact h
          · exact absurd a1.symm (nd i j h (by simpa using hjl))
      have hk : ∀ f : MapEntry → Value, (∀ v, f { e0 with val := v } = f e0) → (es.toList.set j { e0 with val := Value.int .i64 n }).map f = es.toList.map f := fun f hf => by
        rw [List.map_set, hf]
        exact WideElems.set_self _ _ _ (by rw [List.getElem?_map, h2]; rfl)
      refine ⟨_, _, heap_setBlock hb1, ?_, fun y hy => ?_, fun y hy hn => ?_⟩
      · unfold MapKept.Stamped
        rw [hset]
        refine ⟨fun y hy => ?_, ?_, ?_⟩
        · rcases hmem y hy with rfl | ⟨h, _⟩
          · exact s1 e0 hm0
          · exact s1 y h
        · rw [List.map_set]
          rw [WideElems.set_self _ _ _ (by rw [List.getElem?_map, h2]; rfl)]
          exact s2
        · rw [hk (·.key) (fun _ => rfl)]; exact s3
      · rw [hset] at hy
        rcases hmem y hy with rfl | ⟨h, hne⟩
        · exact ⟨z, hzz, h3, by simp⟩
        · obtain ⟨z', hz', f1, f2⟩ := hv y h
          have : z' ≠ z := fun e => hne (by rw [f1, e, ← h3])
          exact ⟨z', hz', f1, by rw [f2]; simp [this]⟩
      · rw [hset] at hn
        by_cases e3 : y = z
        · subst e3
          refine absurd h3 (hn { e0 with val := .int .i64 n } ?_)
          obtain ⟨hjl, _⟩ := List.getElem?_eq_some_iff.1 h2
          exact List.mem_iff_getElem.2 ⟨j, by simpa using hjl, by simp⟩
        · simp only [e3, if_false]
          refine h0 y hy (fun x' hx' ex => ?_)
          obtain ⟨i, hi, hxi⟩ := List.getElem_of_mem hx'
          by_cases e : j = i
          · subst e
            obtain ⟨hjl, hje⟩ := List.getElem?_eq_some_iff.1 h2
            rw [hje] at hxi
            rw [← hxi, h3] at ex
            exact e3 (inj _ _ ex).symm
          · exact hn x' (List.mem_iff_getElem.2 ⟨i, by simpa using hi, by rw [List.getElem_set, if_neg e]; exact hxi⟩) ex

/-- A range over a map of which every count is 0 is under way: how many entries are left. -/
def RZ (mk : κ → Value) (w : World) (b r g : Nat) : Prop :=
  ∃ es clock since seen c0, w.heap[b]? = some (.map es clock) ∧ (es.toList.map (·.born)).Nodup ∧ (∀ x ∈ es.toList, ∃ y, x.key = mk y ∧ x.val = .int .i64 0) ∧
    w.heap[r]? = some (.mapIter (some b) since seen c0) ∧ (∀ x ∈ es.toList, x.born < since) ∧ since ≤ c0 ∧ since ≤ clock ∧ (leftOf es seen).size = g

theorem rz_range (ht : P.underlying t = some (.map k e)) (h : CM mk ok w b c) (h0 : ∀ y, c y = 0) :
    ∃ w' g, (Instr.range t (.map (some b))).run P w = .ok (.pointer (some ⟨w.heap.size, 0, none⟩)) w' ∧ RZ mk w' b w.heap.size g ∧ Below w.heap.size w w' := by
  have hlt := h.lt
  obtain ⟨es, clock, hb, ⟨s1, s2, _⟩, hv, _⟩ := h
  refine ⟨_, _, run_range_map w t k e b es clock ht hb, ⟨es, clock, clock, #[], clock, ((MapKept.heap_alloc w _).2 b hlt).trans hb, s2, fun x hx => ?_, (MapKept.heap_alloc w _).1, s1, Nat.le_refl _, Nat.le_refl _, rfl⟩, below_alloc _ _⟩
  obtain ⟨y, _, e1, e2⟩ := hv x hx
  exact ⟨y, e1, by rw [e2, h0]⟩

theorem rz_next {r g : Nat} (h : RZ mk w b r g) (ty : TypeId) :
    (g = 0 ∧ (Instr.next (.pointer (some ⟨r, 0, none⟩)) false ty).run P w = .ok (.tuple #[.bool false]) w) ∨
    ∃ g' y w', g' < g ∧ (Instr.next (.pointer (some ⟨r, 0, none⟩)) false ty).run P w = .ok (.tuple #[.bool true, mk y, .int .i64 0]) w' ∧ RZ mk w' b r g' ∧
      (Instr.entry (.pointer (some ⟨r, 0, none⟩))).run P w' = .ok (.tuple #[mk y, .int .i64 0]) w' ∧ w.grownBy w' (some r) ∧ w'.heap.size = w.heap.size := by
  obtain ⟨es, clock, since, seen, c0, hb, hn, hv, hr, hold, hsc, hsk, hg⟩ := h
  have hne : r ≠ b := fun e => by rw [e, hb] at hr; cases hr
  rcases run_next_at (P := P) w ty r b since c0 seen es clock hr hb hold hsc with ⟨h0, hrun⟩ | ⟨x, hx, w1, hal, hrun⟩
  · exact Or.inl ⟨by omega, hrun⟩
  · obtain ⟨hem, _⟩ := mem_left hx
    obtain ⟨y, e1, e2⟩ := hv x hem
    have hr1 : w1.heap[r]? = some (.mapIter (some b) since seen c0) := by rcases hal with rfl | rfl <;> exact hr
    have hb1 : w1.heap[b]? = some (.map es clock) := by rcases hal with rfl | rfl <;> exact hb
    have hset := MapKept.heap_set (o' := .mapIter (some b) since (seen.push x.born) clock) hr1
    have hb' : (setBlock w1 r (.mapIter (some b) since (seen.push x.born) clock)).heap[b]? = some (.map es clock) := (hset.2 b (fun e1 => hne e1.symm)).trans hb1
    have hen := run_entry_at (P := P) _ r b since seen es clock x hset.1 hb' hem hn
    rw [e1, e2] at hrun hen
    refine Or.inr ⟨_, y, _, ?_, hrun, ⟨es, clock, since, seen.push x.born, clock, hb', hn, hv, hset.1, hold, hsk, hsk, rfl⟩, hen, ?_, ?_⟩
    · rw [← hg]; exact left_shrinks es seen x hx
    · rcases hal with rfl | rfl <;> exact ⟨rfl, rfl, rfl, by simp [setBlock], fun i _ hi => hset.2 i (fun e1 => hi (by rw [e1]))⟩
    · rcases hal with rfl | rfl <;> simp [setBlock]

theorem wpList_next_rz {ops : Array Oper} {rest : List Oper} {o : Oper} {a : Act} {Q : Exit → Act → World → Prop} {r g : Nat} (h : Aside (RZ mk w b r g)) (hg : o.guard = none) (it : Operand) (hop : o.op = Op.next it false) (hit : a.eval it = .pointer (some ⟨r, 0, none⟩))
    (hDone : wpList P ops Q rest (a.put o.dst (.tuple #[.bool false])) w)
    (hMore : ∀ (y : κ) (w' : World) (g' : Nat), g' < g → Aside (RZ mk w' b r g') → (Instr.entry (.pointer (some ⟨r, 0, none⟩))).run P w' = .ok (.tuple #[mk y, .int .i64 0]) w' → Aside (w.grownBy w' (some r)) → wpList P ops Q rest (a.put o.dst (.tuple #[.bool true, mk y, .int .i64 0])) w') :
    wpList P ops Q (o :: rest) a w := by
  refine wpList_plain hg fun K' hK' => ?_
  unfold Oper.wp
  rcases rz_next (P := P) h.out o.type with ⟨_, hrun⟩ | ⟨g', y, w', hlt, hrun, hrz, hen, hgr, _⟩
  · simp [execOp, hop, hit, hrun, Result.andThen]
    exact hK' _ _ hDone
  · simp [execOp, hop, hit, hrun, Result.andThen]
    exact hK' _ _ (hMore y w' g' hlt hrz hen hgr)

theorem wpList_range_cm {ops : Array Oper} {rest : List Oper} {o : Oper} {a : Act} {Q : Exit → Act → World → Prop} (ht : P.underlying t = some (.map k e)) (h : Aside (CM mk ok w b c)) (h0 : ∀ y, c y = 0) (hg : o.guard = none) (m : Operand) (hop : o.op = Op.range t m) (hm : a.eval m = .map (some b))
    (hK : ∀ (w' : World) (g : Nat), Aside (RZ mk w' b w.heap.size g) → Aside (Below w.heap.size w w') → wpList P ops Q rest (a.put o.dst (.pointer (some ⟨w.heap.size, 0, none⟩))) w') :
    wpList P ops Q (o :: rest) a w := by
  refine wpList_plain hg fun K' hK' => ?_
  obtain ⟨w', g, hrun, hrz, hb⟩ := rz_range (P := P) ht h.out h0
  unfold Oper.wp
  simp [execOp, hop, hm, hrun, Result.andThen]
  exact hK' _ _ (hK w' g hrz hb)
end
end Go.Proofs.Ytglgmkikegbchaa

/- A map that counts: 'm[x] = n' (printed by gen/cntu.py). -/
namespace Go.Proofs.Ytglgmkikegbchaa
open Go.RowKit Go.Maps Go.ChangeMaps
open Go.WideMaps (KeyLaw)
section
variable {κ : Type} {P : Program} {t k e : TypeId}
variable {mk : κ → Value} {ok : κ → Prop} {w : World} {b : Nat} {c : κ → Int}

theorem cm_update [DecidableEq κ] (K : Keyed P k) (ht : P.underlying t = some (.map k e)) (hz : ∀ u : World, (zeroValue e).run P u = .ok (.int .i64 0) u) (inj : ∀ x y, mk x = mk y → x = y) (hok : ∀ x, ok x → ∃ l, keyOf P k (mk x) = some l)
    (h : CM mk ok w b c) (x : κ) (hx : ok x) (n : Int) :
    (Instr.lookup t (.map (some b)) (mk x) false).run P w = .ok (.int .i64 (c x)) w ∧ ∃ w2, (Instr.mapUpdate t (.map (some b)) (mk x) (.int .i64 n)).run P w = .ok () w2 ∧ CM mk ok w2 b (fun y => if y = x then n else c y) ∧ w.grownBy w2 (some b) ∧ w2.heap.size = w.heap.size := by
  obtain ⟨_, _, hlook, _⟩ := cm_step K ht hz inj hok h x hx
  refine ⟨hlook, ?_⟩
  clear hlook
  obtain ⟨es, clock, hb, hS, hv, h0⟩ := h
  obtain ⟨s1, s2, s3⟩ := hS
  obtain ⟨kl, hkey⟩ := hok x hx
  have hkeys : ∀ y ∈ es.toList, ∃ l, keyOf P k y.key = some l := fun y hy => by
    obtain ⟨z, hz, e, _⟩ := hv y hy
    rw [e]
    exact hok z hz
  have gb : ∀ (es' : Array MapEntry) (c' : Nat), w.grownBy (setBlock w b (.map es' c')) (some b) := fun es' c' => ⟨rfl, rfl, rfl, by simp [setBlock], fun i _ hi => heap_setBlock_other hb _ (fun e => hi (by rw [e]))⟩
  rcases K.find w hkey es.toList hkeys with ⟨h1, h2⟩ | ⟨j, e0, h1, h2, h3⟩
  · refine ⟨setBlock w b (.map (es.push ⟨mk x, .int .i64 n, clock⟩) (clock + 1)), ?_, ?_, gb _ _, by simp [setBlock]⟩
    · simp [Instr.mapUpdate, run_underlying ht, MapKept.run_getObj_map hb, K.check w false hkey, h1, MapKept.run_setObj_map _ hb, Result.andThen, setBlock]
    · refine ⟨_, _, heap_setBlock hb, ?_, fun y hy => ?_, fun y hy hn => ?_⟩
      · refine ⟨fun y hy => ?_, ?_, ?_⟩
        · simp only [Array.toList_push, List.mem_append, List.mem_singleton] at hy
          rcases hy with hy | rfl
          · have := s1 y hy; omega
          · show clock < clock + 1; omega
        · simp only [Array.toList_push, List.map_append, List.map_cons, List.map_nil]
          refine List.nodup_append.2 ⟨s2, by simp, fun a ha c hc e1 => ?_⟩
          simp only [List.mem_singleton] at hc
          obtain ⟨x, hx, rfl⟩ := List.mem_map.1 ha
          have := s1 x hx
          omega
        · simp only [Array.toList_push, List.map_append, List.map_cons, List.map_nil]
          refine List.nodup_append.2 ⟨s3, by simp, fun a ha c hc e1 => ?_⟩
          simp only [List.mem_singleton] at hc
          obtain ⟨y, hy, rfl⟩ := List.mem_map.1 ha
          exact h2 y hy (e1.trans hc)
      · simp only [Array.toList_push, List.mem_append, List.mem_singleton] at hy
        rcases hy with hy | rfl
        · obtain ⟨z, hz, e1, e2⟩ := hv y hy
          have hne : z ≠ x := fun e3 => h2 y hy (by rw [e1, e3])
          exact ⟨z, hz, e1, by rw [e2]; simp [hne]⟩
        · exact ⟨x, hx, rfl, by simp⟩
      · by_cases e1 : y = x
        · subst e1
          exact absurd rfl (hn ⟨mk y, .int .i64 n, clock⟩ (by simp))
        · simp only [e1, if_false]
          exact h0 y hy (fun z hz => hn z (by simp [hz]))
  · have hm0 : e0 ∈ es.toList := List.mem_of_getElem? h2
    obtain ⟨z, hzz, e1, e2⟩ := hv e0 hm0
    have hzx : z = x := inj _ _ (e1.symm.trans h3)
    subst hzx
    have hj : es[j]? = some e0 := by simpa using h2
    have hsame : (es.modify j fun e' => { e' with key := mk z, val := .int .i64 n }) = es.modify j fun e' => { e' with val := .int .i64 n } := by
      apply Array.ext'
      rw [Array.toList_modify, Array.toList_modify, modify_eq_set _ _ _ _ h2, modify_eq_set _ _ _ _ h2]
      have : ({ e0 with key := mk z, val := Value.int .i64 n } : MapEntry) = { e0 with val := .int .i64 n } := by rw [← h3]
      rw [this]
    refine ⟨setBlock w b (.map (es.modify j fun e' => { e' with val := .int .i64 n }) clock), ?_, ?_, gb _ _, by simp [setBlock]⟩
    · simp [Instr.mapUpdate, run_underlying ht, MapKept.run_getObj_map hb, K.check w false hkey, h1, hj, h3, K.stays w hkey, hsame, MapKept.run_setObj_map _ hb, Result.andThen, setBlock]
    · have hset : (es.modify j fun e' => { e' with val := .int .i64 n }).toList = es.toList.set j { e0 with val := .int .i64 n } := by
        rw [Array.toList_modify, modify_eq_set _ _ _ _ h2]
      have hmem : ∀ y ∈ es.toList.set j { e0 with val := Value.int .i64 n }, y = { e0 with val := .int .i64 n } ∨ (y ∈ es.toList ∧ y.key ≠ e0.key) := fun y hy => by
        obtain ⟨i, hi, hyi⟩ := List.getElem_of_mem hy
        rw [List.getElem_set] at hyi
        by_cases e : j = i
        · rw [if_pos e] at hyi; exact Or.inl hyi.symm
        · rw [if_neg e] at hyi
          refine Or.inr ⟨by rw [← hyi]; exact List.getElem_mem _, fun ek => e ?_⟩
          have hi' : i < es.toList.length := by simpa using hi
          obtain ⟨hjl, hje⟩ := List.getElem?_eq_some_iff.1 h2
          have a1 : (es.toList.map (·.key))[j]? = (es.toList.map (·.key))[i]? := by
            rw [List.getElem?_map, List.getElem?_map, h2, List.getElem?_eq_getElem hi', hyi]
            simp [ek]
          have nd : ∀ (i j : Nat), i < j → j < (es.toList.map (·.key)).length → (es.toList.map (·.key))[i]? ≠ (es.toList.map (·.key))[j]? := fun i j hij hj he => by
            have := List.pairwise_iff_getElem.1 s3 i j (by omega) hj hij
            rw [List.getElem?_eq_getElem (by omega), List.getElem?_eq_getElem hj] at he
            exact this (Option.some.inj he)
          rcases Nat.lt_trichotomy j i with h | h | h
          · exact absurd a1 (nd j i h (by simpa using hi'))
          · exact h
          · exact absurd a1.symm (nd i j h (by simpa using hjl))
      have hk : ∀ f : MapEntry → Value, (∀ v, f { e0 with val := v } = f e0) → (es.toList.set j { e0 with val := Value.int .i64 n }).map f = es.toList.map f := fun f hf => by
        rw [List.map_set, hf]
        exact WideElems.set_self _ _ _ (by rw [List.getElem?_map, h2]; rfl)
      refine ⟨_, _, heap_setBlock hb, ?_, fun y hy => ?_, fun y hy hn => ?_⟩
      · unfold MapKept.Stamped
        rw [hset]
        refine ⟨fun y hy => ?_, ?_, ?_⟩
        · rcases hmem y hy with rfl | ⟨h, _⟩
          · exact s1 e0 hm0
          · exact s1 y h
        · rw [List.map_set]
          rw [WideElems.set_self _ _ _ (by rw [List.getElem?_map, h2]; rfl)]
          exact s2
        · rw [hk (·.key) (fun _ => rfl)]; exact s3
      · rw [hset] at hy
        rcases hmem y hy with rfl | ⟨h, hne⟩
        · exact ⟨z, hzz, h3, by simp⟩
        · obtain ⟨z', hz', f1, f2⟩ := hv y h
          have : z' ≠ z := fun e => hne (by rw [f1, e, ← h3])
          exact ⟨z', hz', f1, by rw [f2]; simp [this]⟩
      · rw [hset] at hn
        by_cases e3 : y = z
        · subst e3
          refine absurd h3 (hn { e0 with val := .int .i64 n } ?_)
          obtain ⟨hjl, _⟩ := List.getElem?_eq_some_iff.1 h2
          exact List.mem_iff_getElem.2 ⟨j, by simpa using hjl, by simp⟩
        · simp only [e3, if_false]
          refine h0 y hy (fun x' hx' ex => ?_)
          obtain ⟨i, hi, hxi⟩ := List.getElem_of_mem hx'
          by_cases e : j = i
          · subst e
            obtain ⟨hjl, hje⟩ := List.getElem?_eq_some_iff.1 h2
            rw [hje] at hxi
            rw [← hxi, h3] at ex
            exact e3 (inj _ _ ex).symm
          · exact hn x' (List.mem_iff_getElem.2 ⟨i, by simpa using hi, by rw [List.getElem_set, if_neg e]; exact hxi⟩) ex
end
end Go.Proofs.Ytglgmkikegbchaa

/- floats, integers (printed by gen/ends.py). -/
namespace Go.Proofs.Ytglgmkikegbchaa
open Go.RowKit Go.Sort

/-- A word as a number with a sign. -/
def toI (x : Nat) : Int := IntKind.i64.wrap (x : Int)
/-- What a conversion of a list makes. -/
def ConvTo {α : Type} [Inhabited α] (enc : α → Value) (w : World) (n : Nat) (D : Array α) (e : Ending) (w' : World) : Prop := ∃ b cap', e = .returned (.slice (some ⟨b, 0, none⟩) n cap') ∧ w.heap.size ≤ b ∧ b < w'.heap.size ∧ Holds enc w' b 0 D ∧ Below w.heap.size w w'
theorem own_grown' {B : Nat} {w0 w w' : World} {base : Nat} {e : TypeId} {size n : Nat} {v : Value} {xs : List Value} (h : w.ownsRow base e size v n xs) (hb : Below B w0 w) (hB : B ≤ base) (hBw : B ≤ w.heap.size) (hg : w.grownBy w' v.ownBlock) : Below B w0 w' := by
  refine hb.grown hg hBw (fun k ek => ?_)
  obtain ⟨_, ⟨rfl, _⟩ | ⟨g, cap, cur, rfl, e2, _⟩⟩ := h
  · cases ek
  · cases ek; exact Nat.le_trans hB e2
theorem own_rowE {α : Type} [Inhabited α] (enc : α → Value) (T : TypeId) {w : World} {base n : Nat} {v : Value} {l : List α} (h : w.ownsRow base T 1 v n (l.map enc)) :
    v = .slice none 0 0 ∨ ∃ g cap, v = .slice (some ⟨g, 0, none⟩) n cap ∧ base ≤ g ∧ g < w.heap.size ∧ n ≤ cap ∧ Holds enc w g 0 l.toArray := by
  obtain ⟨hl, ⟨rfl, h0⟩ | ⟨g, cap, cur, rfl, hb, hg, hnc, _, hcs, ht⟩⟩ := h
  · exact Or.inl rfl
  · have hgl : g < w.heap.size := by
      rcases Nat.lt_or_ge g w.heap.size with h | h
      · exact h
      · rw [Array.getElem?_eq_none h] at hg; cases hg
    rw [Nat.mul_one] at ht hl
    have hll : l.length = n := by simpa using hl
    refine Or.inr ⟨g, cap, rfl, hb, hgl, hnc, fun i hi => ?_⟩
    have hi' : i < l.length := by simpa using hi
    refine ⟨?_, by simp [World.frozen?, hg]⟩
    have hu : (l.map enc)[i]? = some (enc l.toArray[i]!) := by
      rw [List.getElem?_map, List.getElem?_eq_getElem hi', getElem!_pos l.toArray i hi]; rfl
    rw [← ht, List.getElem?_take_of_lt (by omega)] at hu
    simp only [World.cell?, hg, Nat.zero_add]
    simpa using hu

set_option maxHeartbeats 2000000 in
set_option maxRecDepth 1000000 in
theorem floats_calls (a : Option Addr) (cap n : Nat) (d : Array Nat) (w : World) (h : RdU w a d) (hn : d.size = n) (hsz : n ≤ 2000) : Calls Try.prog 49 #[.slice a n cap] w (ConvTo eFl w n d) := by
  obtain ⟨D, hD⟩ : ∃ D, D = d := ⟨_, rfl⟩
  have hDs : D.size = n := by rw [hD]; exact hn
  rw [← hD]
  have HD : Aside (∀ i, i < n → D[i]! = d[i]!) := fun i hi => by rw [hD]
  have E : Aside (D.size = n ∧ d.size = n) := ⟨hDs, hn⟩
  have H : Aside (RdU w a d) := h
  clear hD hDs h hn
  obtain ⟨i0, hi, hz0, hz1, hz2⟩ := info_parts (show (Try.prog.info? 86).map (fun i => (i.zero, i.size, i.bytes)) = some (some (.float .f64 0), 1, 8) by kernel_rfl)
  have hI : Aside (Try.prog.info? 86 = some i0 ∧ i0.zero = some (.float .f64 0) ∧ i0.size = 1 ∧ i0.bytes = 8) := ⟨hi, hz0, hz1, hz2⟩
  clear hi hz0 hz1 hz2
  obtain ⟨W, hW⟩ : ∃ W, W = w.alloc (.cells #[] 86) := ⟨_, rfl⟩
  have BW : Aside (Below w.heap.size w W) := by show Below _ _ _; rw [hW]; exact below_alloc _ _
  have OW : Aside (W.ownsRow w.heap.size 86 1 (.slice (some ⟨w.heap.size, 0, none⟩) 0 0) 0 ((D.toList.take 0).map eFl)) := ⟨rfl, Or.inr ⟨_, 0, #[], rfl, Nat.le_refl _, by rw [hW]; exact heap_alloc_new _ _, Nat.le_refl _, by decide, rfl, rfl⟩⟩
  have SW : Aside (w.heap.size ≤ W.heap.size) := BW.out.size
  go_enter Try.func49, Try.ntmps49
  go_upto_region 2 with fail
  rw [← hW]
  clear hW
  go_wp2_with fail
  go_loopg [3, 9] n (fun g vk vi wr => ∃ i : Nat, vi = .int .i64 i ∧ i ≤ n ∧ n - i ≤ g ∧ Aside (wr.ownsRow w.heap.size 86 1 vk i ((D.toList.take i).map eFl) ∧ Below w.heap.size W wr ∧ ¬ vk = .slice none 0 0))
  case atStart => exact ⟨0, rfl, Nat.zero_le _, by omega, OW.out, Below.refl _ _, by simp⟩
  case round =>
    clear OW
    obtain ⟨i, rfl, hin, hg, HO⟩ := hrel
    have szr := Nat.le_trans SW.out HO.out.2.1.size
    by_cases hlt : i < n
    · have hltz : (i : Int) < (n : Int) := by omega
      obtain ⟨blk, off, rfl, hbl, hc⟩ := H.out (by rw [E.out.2]; omega)
      obtain ⟨x, hx⟩ : ∃ x, x = d[i]! := ⟨_, rfl⟩
      have c1 : wr.cell? ⟨blk, off + i, none⟩ = some (.int .u64 (x : Int)) := by
        rw [hx]; exact ((BW.out.trans HO.out.2.1).cell (p := ⟨blk, off + i, none⟩) hbl).trans (hc i (by rw [E.out.2]; exact hlt))
      have hfb := frombits_run x
      have O2 : Aside ((wr.alloc (.cells #[.float .f64 x] 86)).ownsRow w.heap.size 86 1 u3 i ((D.toList.take i).map eFl)) := own_below HO.out.1 (below_alloc _ _)
      have B2 : Aside (Below w.heap.size W (wr.alloc (.cells #[.float .f64 x] 86)) ∧ ¬ u3 = .slice none 0 0) := ⟨HO.out.2.1.alloc szr _, HO.out.2.2⟩
      have X : Aside ((D.toList.take (i + 1)).map eFl = (D.toList.take i).map eFl ++ [.float .f64 x]) := by
        show _ = _
        have hv : D[i]! = x := by rw [HD.out i hlt, ← hx]
        rw [List.take_succ_eq_append_getElem (by simp [E.out.1]; exact hlt), List.map_append, ← hv, getElem!_pos D i (by rw [E.out.1]; exact hlt)]
        rfl
      obtain ⟨hi, hz0, hz1, hz2⟩ := hI.out
      clear hc hx HO
      go_wp2_with (at_builtin; refine wpList_append_own _ rfl _ _ 83 rfl w.heap.size 86 i0 (.float .f64 0) 1 8 Try.underlying83 hi hz0 hz1 hz2 rfl (by decide) _ i _ rfl O2.out ⟨wr.heap.size, 0, none⟩ 1 1 [.float .f64 x] rfl rfl ?c1 ?c2 ?c3 ?c4 ?c5 ?_)
      case c1 =>
        intro j u hj
        match j, hj with
        | 0, hj => simp at hj; subst hj; simp [Addr.add, go_sem]
      case c2 => intro u hu; simp at hu; subst hu; rfl
      case c3 => unfold maxLen; omega
      case c4 => omega
      case c5 => simp; omega
      intro v' w2 hown' hgrow hnil
      have O3 : Aside (w2.ownsRow w.heap.size 86 1 v' (i + 1) ((D.toList.take (i + 1)).map eFl) ∧ Below w.heap.size W w2 ∧ ¬ v' = .slice none 0 0) := by
        refine ⟨?_, own_grown' O2.out B2.out.1 (Nat.le_refl _) (by simp; omega) hgrow, hnil⟩
        rw [X.out]
        simpa [List.map_take] using hown'
      clear hi hz0 hz1 hz2 c1 O2 B2 hown' hgrow hnil X hfb
      go_wp2_with fail
      go_roundg (n - (i + 1))
      case measure => omega
      case rel => exact ⟨i + 1, by go_num, by omega, Nat.le_refl _, O3⟩
    · have hltz : ¬ (i : Int) < (n : Int) := by omega
      have e0 : i = n := by omega
      subst e0
      obtain ⟨hO, hBr, hnn⟩ := HO.out
      have eL : (D.toList.take i).map eFl = D.toList.map eFl := by rw [← E.out.1, ← Array.length_toList, List.take_length]
      rw [eL] at hO
      rcases own_rowE eFl 86 hO with h | ⟨g, kc, rfl, hg1, hg2, hkc, hks⟩
      · exact absurd h hnn
      have R : Aside (w.heap.size ≤ g ∧ g < wr.heap.size ∧ Holds eFl wr g 0 D ∧ Below w.heap.size w wr) := ⟨hg1, hg2, by simpa using hks, BW.out.trans hBr⟩
      clear hO hBr hnn HO eL hks
      go_wp2_with fail
      go_ret
      exact ⟨g, kc, rfl, R.out⟩

set_option maxHeartbeats 2000000 in
set_option maxRecDepth 1000000 in
theorem integers_calls (a : Option Addr) (cap n : Nat) (d : Array Nat) (w : World) (h : RdU w a d) (hn : d.size = n) (hsz : n ≤ 2000) : Calls Try.prog 53 #[.slice a n cap] w (ConvTo eI w n (d.map toI)) := by
  obtain ⟨D, hD⟩ : ∃ D, D = (d.map toI) := ⟨_, rfl⟩
  have hDs : D.size = n := by rw [hD, Array.size_map]; exact hn
  rw [← hD]
  have HD : Aside (∀ i, i < n → D[i]! = toI d[i]!) := fun i hi => by rw [hD]; rw [getElem!_pos _ _ (by rw [Array.size_map, hn]; exact hi), getElem!_pos d i (by rw [hn]; exact hi)]; simp
  have E : Aside (D.size = n ∧ d.size = n) := ⟨hDs, hn⟩
  have H : Aside (RdU w a d) := h
  clear hD hDs h hn
  obtain ⟨i0, hi, hz0, hz1, hz2⟩ := info_parts (show (Try.prog.info? 2).map (fun i => (i.zero, i.size, i.bytes)) = some (some (.int .i64 0), 1, 8) by kernel_rfl)
  have hI : Aside (Try.prog.info? 2 = some i0 ∧ i0.zero = some (.int .i64 0) ∧ i0.size = 1 ∧ i0.bytes = 8) := ⟨hi, hz0, hz1, hz2⟩
  clear hi hz0 hz1 hz2
  obtain ⟨W, hW⟩ : ∃ W, W = w.alloc (.cells #[] 2) := ⟨_, rfl⟩
  have BW : Aside (Below w.heap.size w W) := by show Below _ _ _; rw [hW]; exact below_alloc _ _
  have OW : Aside (W.ownsRow w.heap.size 2 1 (.slice (some ⟨w.heap.size, 0, none⟩) 0 0) 0 ((D.toList.take 0).map eI)) := ⟨rfl, Or.inr ⟨_, 0, #[], rfl, Nat.le_refl _, by rw [hW]; exact heap_alloc_new _ _, Nat.le_refl _, by decide, rfl, rfl⟩⟩
  have SW : Aside (w.heap.size ≤ W.heap.size) := BW.out.size
  go_enter Try.func53, Try.ntmps53
  go_upto_region 2 with fail
  rw [← hW]
  clear hW
  go_wp2_with fail
  go_loopg [3, 9] n (fun g vk vi wr => ∃ i : Nat, vi = .int .i64 i ∧ i ≤ n ∧ n - i ≤ g ∧ Aside (wr.ownsRow w.heap.size 2 1 vk i ((D.toList.take i).map eI) ∧ Below w.heap.size W wr ∧ ¬ vk = .slice none 0 0))
  case atStart => exact ⟨0, rfl, Nat.zero_le _, by omega, OW.out, Below.refl _ _, by simp⟩
  case round =>
    clear OW
    obtain ⟨i, rfl, hin, hg, HO⟩ := hrel
    have szr := Nat.le_trans SW.out HO.out.2.1.size
    by_cases hlt : i < n
    · have hltz : (i : Int) < (n : Int) := by omega
      obtain ⟨blk, off, rfl, hbl, hc⟩ := H.out (by rw [E.out.2]; omega)
      obtain ⟨x, hx⟩ : ∃ x, x = d[i]! := ⟨_, rfl⟩
      have c1 : wr.cell? ⟨blk, off + i, none⟩ = some (.int .u64 (x : Int)) := by
        rw [hx]; exact ((BW.out.trans HO.out.2.1).cell (p := ⟨blk, off + i, none⟩) hbl).trans (hc i (by rw [E.out.2]; exact hlt))
      obtain ⟨y, hy⟩ : ∃ y, y = toI x := ⟨_, rfl⟩
      have hyw : IntKind.i64.wrap (x : Int) = y := hy.symm
      have O2 : Aside ((wr.alloc (.cells #[.int .i64 y] 2)).ownsRow w.heap.size 2 1 u3 i ((D.toList.take i).map eI)) := own_below HO.out.1 (below_alloc _ _)
      have B2 : Aside (Below w.heap.size W (wr.alloc (.cells #[.int .i64 y] 2)) ∧ ¬ u3 = .slice none 0 0) := ⟨HO.out.2.1.alloc szr _, HO.out.2.2⟩
      have X : Aside ((D.toList.take (i + 1)).map eI = (D.toList.take i).map eI ++ [.int .i64 y]) := by
        show _ = _
        have hv : D[i]! = y := by rw [HD.out i hlt, ← hx]; exact hy.symm
        rw [List.take_succ_eq_append_getElem (by simp [E.out.1]; exact hlt), List.map_append, ← hv, getElem!_pos D i (by rw [E.out.1]; exact hlt)]
        rfl
      obtain ⟨hi, hz0, hz1, hz2⟩ := hI.out
      clear hc hx HO hy
      go_wp2_with (at_builtin; refine wpList_append_own _ rfl _ _ 88 rfl w.heap.size 2 i0 (.int .i64 0) 1 8 Try.underlying88 hi hz0 hz1 hz2 rfl (by decide) _ i _ rfl O2.out ⟨wr.heap.size, 0, none⟩ 1 1 [.int .i64 y] rfl rfl ?c1 ?c2 ?c3 ?c4 ?c5 ?_)
      case c1 =>
        intro j u hj
        match j, hj with
        | 0, hj => simp at hj; subst hj; simp [Addr.add, go_sem]
      case c2 => intro u hu; simp at hu; subst hu; rfl
      case c3 => unfold maxLen; omega
      case c4 => omega
      case c5 => simp; omega
      intro v' w2 hown' hgrow hnil
      have O3 : Aside (w2.ownsRow w.heap.size 2 1 v' (i + 1) ((D.toList.take (i + 1)).map eI) ∧ Below w.heap.size W w2 ∧ ¬ v' = .slice none 0 0) := by
        refine ⟨?_, own_grown' O2.out B2.out.1 (Nat.le_refl _) (by simp; omega) hgrow, hnil⟩
        rw [X.out]
        simpa [List.map_take] using hown'
      clear hi hz0 hz1 hz2 c1 O2 B2 hown' hgrow hnil X hyw
      go_wp2_with fail
      go_roundg (n - (i + 1))
      case measure => omega
      case rel => exact ⟨i + 1, by go_num, by omega, Nat.le_refl _, O3⟩
    · have hltz : ¬ (i : Int) < (n : Int) := by omega
      have e0 : i = n := by omega
      subst e0
      obtain ⟨hO, hBr, hnn⟩ := HO.out
      have eL : (D.toList.take i).map eI = D.toList.map eI := by rw [← E.out.1, ← Array.length_toList, List.take_length]
      rw [eL] at hO
      rcases own_rowE eI 2 hO with h | ⟨g, kc, rfl, hg1, hg2, hkc, hks⟩
      · exact absurd h hnn
      have R : Aside (w.heap.size ≤ g ∧ g < wr.heap.size ∧ Holds eI wr g 0 D ∧ Below w.heap.size w wr) := ⟨hg1, hg2, by simpa using hks, BW.out.trans hBr⟩
      clear hO hBr hnn HO eL hks
      go_wp2_with fail
      go_ret
      exact ⟨g, kc, rfl, R.out⟩
end Go.Proofs.Ytglgmkikegbchaa

/- slices.Min, slices.Max (printed by gen/ends.py). -/
namespace Go.Proofs.Ytglgmkikegbchaa
open Go.RowKit Go.Sort

def MinFOf (d : Array Nat) (i : Nat) (m : Nat) : Prop := (∀ j, j < i → nanF d[j]! = true → nanF m = true) ∧ ((∀ j, j < i → nanF d[j]! = false) → nanF m = false ∧ (∃ j, j < i ∧ m = d[j]!) ∧ ∀ j, j < i → muF m ≤ muF d[j]!)
/-- What slices.Min tells. -/
def MinFTo (w : World) (d : Array Nat) (e : Ending) (w' : World) : Prop := ∃ m, e = .returned (.float .f64 m) ∧ MinFOf d d.size m ∧ ∃ q, w' = w.drewN q
set_option maxHeartbeats 2000000 in
set_option maxRecDepth 1000000 in
theorem minF_calls (b cap n : Nat) (d : Array Nat) (w : World) (h : Holds eFl w b 0 d) (hn : d.size = n) (h0 : 0 < n) (hsz : n ≤ 2000) : Calls Try.prog 51 #[.slice (some ⟨b, 0, none⟩) n cap] w (MinFTo w d) := by
  have H : Aside (Holds eFl w b 0 d ∧ d.size = n) := ⟨h, hn⟩
  obtain ⟨x0, hx0⟩ : ∃ x, x = d[0]! := ⟨_, rfl⟩
  have c0 := (h 0 (by omega)).1
  rw [← hx0] at c0
  have h1 : 1 ≤ n := h0
  have h1z : (1 : Int) ≤ (n : Int) := by omega
  have h0z : (0 : Int) < (n : Int) := by omega
  have h1zn : ¬ (n : Int) < 1 := by omega
  have I0 : Aside (MinFOf d 1 x0) := by
    show MinFOf d 1 x0
    exact ⟨fun j h hj => by cases (show j = 0 by omega); rw [hx0]; exact hj, fun hj => ⟨by rw [hx0]; exact hj 0 (by omega), ⟨0, by omega, hx0⟩, fun j h => by cases (show j = 0 by omega); rw [hx0]; exact Int.le_refl _⟩⟩
  clear h hn hx0
  go_enter Try.func51, Try.ntmps51
  go_wp2_with fail
  go_loopg [3, 4] n (fun g vm vi wr => ∃ (m : Nat) (i q : Nat), vm = .float .f64 m ∧ vi = .int .i64 i ∧ 1 ≤ i ∧ i ≤ n ∧ n - i ≤ g ∧ Aside (MinFOf d i m) ∧ wr = w.drewN q)
  case atStart => exact ⟨x0, 1, 0, rfl, by go_num, Nat.le_refl _, h1, by omega, I0, rfl⟩
  case round =>
    clear I0 c0
    obtain ⟨m, i, q, rfl, rfl, hi1, hin, hg, HI, rfl⟩ := hrel
    by_cases hlt : i < n
    · have hltz : (i : Int) < (n : Int) := by omega
      obtain ⟨x, hx⟩ : ∃ x, x = d[i]! := ⟨_, rfl⟩
      have c1 : (w.drewN q).cell? ⟨b, i, none⟩ = some (.float .f64 x) := by
        have := (H.out.1 i (by rw [H.out.2]; exact hlt)).1
        rw [← hx, Nat.zero_add] at this
        exact (World.cell?_drewN w q _).trans this
      have HX : Aside (x = d[i]!) := hx
      clear hx
      go_wp2_with (refine wpList_min_fl rfl _ _ _ rfl m x rfl rfl ?_; intro z w2 HZ)
      have IZ : Aside (MinFOf d (i + 1) z) := by
        obtain ⟨⟨z1, z2⟩, _⟩ := HZ.out
        obtain ⟨i1, i2⟩ := HI.out
        have hx := HX.out
        refine ⟨fun j hj hjn => ?_, fun hall => ?_⟩
        · rcases Nat.lt_or_ge j i with h | h
          · exact z1 (Or.inl (i1 j h hjn))
          · obtain rfl : j = i := by omega
            exact z1 (Or.inr (by rw [hx]; exact hjn))
        · obtain ⟨m1, ⟨j, hj, ej⟩, m3⟩ := i2 (fun j hj => hall j (by omega))
          have hxn : nanF x = false := by rw [hx]; exact hall i (by omega)
          obtain ⟨y1, y2, y3⟩ := z2 m1 hxn
          simp only [Bool.false_eq_true, if_false] at y3
          refine ⟨y1, ?_, fun j hj => ?_⟩
          · rcases y2 with y2 | y2
            · exact ⟨j, by omega, by rw [y2]; exact ej⟩
            · exact ⟨i, by omega, by rw [y2]; exact hx⟩
          · rcases Nat.lt_or_ge j i with h | h
            · have := m3 j h; omega
            · obtain rfl : j = i := by omega
              rw [← hx]; omega
      have W2 : Aside (∃ q', w2 = w.drewN q') := by
        rcases HZ.out.2 with h | h
        · exact ⟨q, h⟩
        · exact ⟨q + 1, h⟩
      obtain ⟨q', rfl⟩ := W2.out
      clear HZ HI HX c1 W2
      go_wp2_with fail
      go_roundg (n - (i + 1))
      case measure => omega
      case rel => exact ⟨z, i + 1, q', rfl, by go_num, by omega, by omega, Nat.le_refl _, IZ, rfl⟩
    · have hltz : ¬ (i : Int) < (n : Int) := by omega
      have e : i = n := by omega
      subst e
      go_wp2_with fail
      go_ret
      exact ⟨m, rfl, by rw [H.out.2]; exact HI.out, q, rfl⟩

def MaxFOf (d : Array Nat) (i : Nat) (m : Nat) : Prop := (∀ j, j < i → nanF d[j]! = true → nanF m = true) ∧ ((∀ j, j < i → nanF d[j]! = false) → nanF m = false ∧ (∃ j, j < i ∧ m = d[j]!) ∧ ∀ j, j < i → muF d[j]! ≤ muF m)
/-- What slices.Max tells. -/
def MaxFTo (w : World) (d : Array Nat) (e : Ending) (w' : World) : Prop := ∃ m, e = .returned (.float .f64 m) ∧ MaxFOf d d.size m ∧ ∃ q, w' = w.drewN q
set_option maxHeartbeats 2000000 in
set_option maxRecDepth 1000000 in
theorem maxF_calls (b cap n : Nat) (d : Array Nat) (w : World) (h : Holds eFl w b 0 d) (hn : d.size = n) (h0 : 0 < n) (hsz : n ≤ 2000) : Calls Try.prog 52 #[.slice (some ⟨b, 0, none⟩) n cap] w (MaxFTo w d) := by
  have H : Aside (Holds eFl w b 0 d ∧ d.size = n) := ⟨h, hn⟩
  obtain ⟨x0, hx0⟩ : ∃ x, x = d[0]! := ⟨_, rfl⟩
  have c0 := (h 0 (by omega)).1
  rw [← hx0] at c0
  have h1 : 1 ≤ n := h0
  have h1z : (1 : Int) ≤ (n : Int) := by omega
  have h0z : (0 : Int) < (n : Int) := by omega
  have h1zn : ¬ (n : Int) < 1 := by omega
  have I0 : Aside (MaxFOf d 1 x0) := by
    show MaxFOf d 1 x0
    exact ⟨fun j h hj => by cases (show j = 0 by omega); rw [hx0]; exact hj, fun hj => ⟨by rw [hx0]; exact hj 0 (by omega), ⟨0, by omega, hx0⟩, fun j h => by cases (show j = 0 by omega); rw [hx0]; exact Int.le_refl _⟩⟩
  clear h hn hx0
  go_enter Try.func52, Try.ntmps52
  go_wp2_with fail
  go_loopg [3, 4] n (fun g vm vi wr => ∃ (m : Nat) (i q : Nat), vm = .float .f64 m ∧ vi = .int .i64 i ∧ 1 ≤ i ∧ i ≤ n ∧ n - i ≤ g ∧ Aside (MaxFOf d i m) ∧ wr = w.drewN q)
  case atStart => exact ⟨x0, 1, 0, rfl, by go_num, Nat.le_refl _, h1, by omega, I0, rfl⟩
  case round =>
    clear I0 c0
    obtain ⟨m, i, q, rfl, rfl, hi1, hin, hg, HI, rfl⟩ := hrel
    by_cases hlt : i < n
    · have hltz : (i : Int) < (n : Int) := by omega
      obtain ⟨x, hx⟩ : ∃ x, x = d[i]! := ⟨_, rfl⟩
      have c1 : (w.drewN q).cell? ⟨b, i, none⟩ = some (.float .f64 x) := by
        have := (H.out.1 i (by rw [H.out.2]; exact hlt)).1
        rw [← hx, Nat.zero_add] at this
        exact (World.cell?_drewN w q _).trans this
      have HX : Aside (x = d[i]!) := hx
      clear hx
      go_wp2_with (refine wpList_max_fl rfl _ _ _ rfl m x rfl rfl ?_; intro z w2 HZ)
      have IZ : Aside (MaxFOf d (i + 1) z) := by
        obtain ⟨⟨z1, z2⟩, _⟩ := HZ.out
        obtain ⟨i1, i2⟩ := HI.out
        have hx := HX.out
        refine ⟨fun j hj hjn => ?_, fun hall => ?_⟩
        · rcases Nat.lt_or_ge j i with h | h
          · exact z1 (Or.inl (i1 j h hjn))
          · obtain rfl : j = i := by omega
            exact z1 (Or.inr (by rw [hx]; exact hjn))
        · obtain ⟨m1, ⟨j, hj, ej⟩, m3⟩ := i2 (fun j hj => hall j (by omega))
          have hxn : nanF x = false := by rw [hx]; exact hall i (by omega)
          obtain ⟨y1, y2, y3⟩ := z2 m1 hxn
          simp only [if_true] at y3
          refine ⟨y1, ?_, fun j hj => ?_⟩
          · rcases y2 with y2 | y2
            · exact ⟨j, by omega, by rw [y2]; exact ej⟩
            · exact ⟨i, by omega, by rw [y2]; exact hx⟩
          · rcases Nat.lt_or_ge j i with h | h
            · have := m3 j h; omega
            · obtain rfl : j = i := by omega
              rw [← hx]; omega
      have W2 : Aside (∃ q', w2 = w.drewN q') := by
        rcases HZ.out.2 with h | h
        · exact ⟨q, h⟩
        · exact ⟨q + 1, h⟩
      obtain ⟨q', rfl⟩ := W2.out
      clear HZ HI HX c1 W2
      go_wp2_with fail
      go_roundg (n - (i + 1))
      case measure => omega
      case rel => exact ⟨z, i + 1, q', rfl, by go_num, by omega, by omega, Nat.le_refl _, IZ, rfl⟩
    · have hltz : ¬ (i : Int) < (n : Int) := by omega
      have e : i = n := by omega
      subst e
      go_wp2_with fail
      go_ret
      exact ⟨m, rfl, by rw [H.out.2]; exact HI.out, q, rfl⟩

def MinIOf (d : Array Int) (i : Nat) (m : Int) : Prop := (∃ j, j < i ∧ m = d[j]!) ∧ ∀ j, j < i → m ≤ d[j]!
/-- What slices.Min tells. -/
def MinITo (w : World) (d : Array Int) (e : Ending) (w' : World) : Prop := ∃ m, e = .returned (.int .i64 m) ∧ MinIOf d d.size m ∧ ∃ q, w' = w.drewN q
set_option maxHeartbeats 2000000 in
set_option maxRecDepth 1000000 in
theorem minI_calls (b cap n : Nat) (d : Array Int) (w : World) (h : Holds eI w b 0 d) (hn : d.size = n) (h0 : 0 < n) (hsz : n ≤ 2000) : Calls Try.prog 54 #[.slice (some ⟨b, 0, none⟩) n cap] w (MinITo w d) := by
  have H : Aside (Holds eI w b 0 d ∧ d.size = n) := ⟨h, hn⟩
  obtain ⟨x0, hx0⟩ : ∃ x, x = d[0]! := ⟨_, rfl⟩
  have c0 := (h 0 (by omega)).1
  rw [← hx0] at c0
  have h1 : 1 ≤ n := h0
  have h1z : (1 : Int) ≤ (n : Int) := by omega
  have h0z : (0 : Int) < (n : Int) := by omega
  have h1zn : ¬ (n : Int) < 1 := by omega
  have I0 : Aside (MinIOf d 1 x0) := by
    show MinIOf d 1 x0
    exact ⟨⟨0, by omega, hx0⟩, fun j h => by cases (show j = 0 by omega); rw [hx0]; exact Int.le_refl _⟩
  clear h hn hx0
  go_enter Try.func54, Try.ntmps54
  go_wp2_with fail
  go_loopg [3, 4] n (fun g vm vi wr => ∃ (m : Int) (i q : Nat), vm = .int .i64 m ∧ vi = .int .i64 i ∧ 1 ≤ i ∧ i ≤ n ∧ n - i ≤ g ∧ Aside (MinIOf d i m) ∧ wr = w.drewN q)
  case atStart => exact ⟨x0, 1, 0, rfl, by go_num, Nat.le_refl _, h1, by omega, I0, rfl⟩
  case round =>
    clear I0 c0
    obtain ⟨m, i, q, rfl, rfl, hi1, hin, hg, HI, rfl⟩ := hrel
    by_cases hlt : i < n
    · have hltz : (i : Int) < (n : Int) := by omega
      obtain ⟨x, hx⟩ : ∃ x, x = d[i]! := ⟨_, rfl⟩
      have c1 : (w.drewN q).cell? ⟨b, i, none⟩ = some (.int .i64 x) := by
        have := (H.out.1 i (by rw [H.out.2]; exact hlt)).1
        rw [← hx, Nat.zero_add] at this
        exact (World.cell?_drewN w q _).trans this
      have HX : Aside (x = d[i]!) := hx
      clear hx
      have IZ : Aside (MinIOf d (i + 1) (min m x)) := by
        obtain ⟨⟨j, hj, ej⟩, m3⟩ := HI.out
        have hx := HX.out
        refine ⟨?_, fun j hj => ?_⟩
        · rcases (show min m x = m ∨ min m x = x by omega) with h | h
          · exact ⟨j, by omega, by rw [h]; exact ej⟩
          · exact ⟨i, by omega, by rw [h]; exact hx⟩
        · rcases Nat.lt_or_ge j i with h | h
          · have := m3 j h; omega
          · obtain rfl : j = i := by omega
            rw [← hx]; omega
      clear HI HX
      go_wp2_with fail
      go_roundg (n - (i + 1))
      case measure => omega
      case rel => exact ⟨min m x, i + 1, q, rfl, by go_num, by omega, by omega, Nat.le_refl _, IZ, rfl⟩
    · have hltz : ¬ (i : Int) < (n : Int) := by omega
      have e : i = n := by omega
      subst e
      go_wp2_with fail
      go_ret
      exact ⟨m, rfl, by rw [H.out.2]; exact HI.out, q, rfl⟩

def MaxIOf (d : Array Int) (i : Nat) (m : Int) : Prop := (∃ j, j < i ∧ m = d[j]!) ∧ ∀ j, j < i → d[j]! ≤ m
/-- What slices.Max tells. -/
def MaxITo (w : World) (d : Array Int) (e : Ending) (w' : World) : Prop := ∃ m, e = .returned (.int .i64 m) ∧ MaxIOf d d.size m ∧ ∃ q, w' = w.drewN q
set_option maxHeartbeats 2000000 in
set_option maxRecDepth 1000000 in
theorem maxI_calls (b cap n : Nat) (d : Array Int) (w : World) (h : Holds eI w b 0 d) (hn : d.size = n) (h0 : 0 < n) (hsz : n ≤ 2000) : Calls Try.prog 55 #[.slice (some ⟨b, 0, none⟩) n cap] w (MaxITo w d) := by
  have H : Aside (Holds eI w b 0 d ∧ d.size = n) := ⟨h, hn⟩
  obtain ⟨x0, hx0⟩ : ∃ x, x = d[0]! := ⟨_, rfl⟩
  have c0 := (h 0 (by omega)).1
  rw [← hx0] at c0
  have h1 : 1 ≤ n := h0
  have h1z : (1 : Int) ≤ (n : Int) := by omega
  have h0z : (0 : Int) < (n : Int) := by omega
  have h1zn : ¬ (n : Int) < 1 := by omega
  have I0 : Aside (MaxIOf d 1 x0) := by
    show MaxIOf d 1 x0
    exact ⟨⟨0, by omega, hx0⟩, fun j h => by cases (show j = 0 by omega); rw [hx0]; exact Int.le_refl _⟩
  clear h hn hx0
  go_enter Try.func55, Try.ntmps55
  go_wp2_with fail
  go_loopg [3, 4] n (fun g vm vi wr => ∃ (m : Int) (i q : Nat), vm = .int .i64 m ∧ vi = .int .i64 i ∧ 1 ≤ i ∧ i ≤ n ∧ n - i ≤ g ∧ Aside (MaxIOf d i m) ∧ wr = w.drewN q)
  case atStart => exact ⟨x0, 1, 0, rfl, by go_num, Nat.le_refl _, h1, by omega, I0, rfl⟩
  case round =>
    clear I0 c0
    obtain ⟨m, i, q, rfl, rfl, hi1, hin, hg, HI, rfl⟩ := hrel
    by_cases hlt : i < n
    · have hltz : (i : Int) < (n : Int) := by omega
      obtain ⟨x, hx⟩ : ∃ x, x = d[i]! := ⟨_, rfl⟩
      have c1 : (w.drewN q).cell? ⟨b, i, none⟩ = some (.int .i64 x) := by
        have := (H.out.1 i (by rw [H.out.2]; exact hlt)).1
        rw [← hx, Nat.zero_add] at this
        exact (World.cell?_drewN w q _).trans this
      have HX : Aside (x = d[i]!) := hx
      clear hx
      have IZ : Aside (MaxIOf d (i + 1) (max m x)) := by
        obtain ⟨⟨j, hj, ej⟩, m3⟩ := HI.out
        have hx := HX.out
        refine ⟨?_, fun j hj => ?_⟩
        · rcases (show max m x = m ∨ max m x = x by omega) with h | h
          · exact ⟨j, by omega, by rw [h]; exact ej⟩
          · exact ⟨i, by omega, by rw [h]; exact hx⟩
        · rcases Nat.lt_or_ge j i with h | h
          · have := m3 j h; omega
          · obtain rfl : j = i := by omega
            rw [← hx]; omega
      clear HI HX
      go_wp2_with fail
      go_roundg (n - (i + 1))
      case measure => omega
      case rel => exact ⟨max m x, i + 1, q, rfl, by go_num, by omega, by omega, Nat.le_refl _, IZ, rfl⟩
    · have hltz : ¬ (i : Int) < (n : Int) := by omega
      have e : i = n := by omega
      subst e
      go_wp2_with fail
      go_ret
      exact ⟨m, rfl, by rw [H.out.2]; exact HI.out, q, rfl⟩
end Go.Proofs.Ytglgmkikegbchaa

/- spec.None, Alike, before, Least. -/
namespace Go.Proofs.Ytglgmkikegbchaa
open Go.RowKit Go.Sort

set_option maxHeartbeats 2000000 in
set_option maxRecDepth 1000000 in
theorem none_calls (x : Nat) (w : World) : Calls Try.prog 26 #[.int .u64 (x : Int)] w fun e w' => e = .returned (.bool (nanF x)) ∧ w' = w := by
  have hf := frombits_run x
  go_enter Try.func26, Try.ntmps26
  go_wp2_with fail
  go_ret
  exact ⟨rfl, rfl⟩

set_option maxHeartbeats 2000000 in
set_option maxRecDepth 1000000 in
theorem alike_F (x y : Nat) (h : (ordF x y == some .eq) = true) (w : World) : Calls Try.prog 27 #[.bool true, .int .u64 (x : Int), .int .u64 (y : Int)] w fun e w' => e = .returned (.bool true) ∧ w' = w := by
  have hf := frombits_run x
  have hg := frombits_run y
  have HH : Aside _ := h
  clear h
  go_enter Try.func27, Try.ntmps27
  go_wp2_with fail
  go_ret
  exact ⟨congrArg (fun t => Ending.returned (.bool t)) HH.out, rfl⟩
set_option maxHeartbeats 2000000 in
set_option maxRecDepth 1000000 in
theorem alike_I (x : Nat) (w : World) : Calls Try.prog 27 #[.bool false, .int .u64 (x : Int), .int .u64 (x : Int)] w fun e w' => e = .returned (.bool true) ∧ w' = w := by
  go_enter Try.func27, Try.ntmps27
  go_wp2_with fail
  go_ret
  exact ⟨rfl, rfl⟩
theorem toI_lt (x y : Nat) : decide (wrap64 (x : Int) < wrap64 (y : Int)) = decide (toI x < toI y) := by
  unfold toI wrap64
  rw [IntKind.wrap_i64, IntKind.wrap_i64]
set_option maxHeartbeats 2000000 in
set_option maxRecDepth 1000000 in
theorem before_I (x y : Nat) (w : World) : Calls Try.prog 57 #[.bool false, .int .u64 (x : Int), .int .u64 (y : Int)] w fun e w' => e = .returned (.bool (decide (toI x < toI y))) ∧ w' = w := by
  go_enter Try.func57, Try.ntmps57
  go_wp2_with fail
  go_ret
  exact ⟨congrArg (fun t => Ending.returned (.bool t)) (toI_lt x y), rfl⟩
theorem ltFl_eq (x y : Nat) : ltFl x y = ((ordF x y == some .lt) || ((ordF x x != some .eq) && (ordF y y == some .eq))) := by
  unfold ltFl nanF
  rw [Bool.or_comm]
  simp [bne]
set_option maxHeartbeats 2000000 in
set_option maxRecDepth 1000000 in
theorem before_F (x y : Nat) (w : World) : Calls Try.prog 57 #[.bool true, .int .u64 (x : Int), .int .u64 (y : Int)] w fun e w' => e = .returned (.bool (ltFl x y)) ∧ w' = w := by
  have hf := frombits_run x
  have hg := frombits_run y
  go_enter Try.func57, Try.ntmps57
  go_wp2_with fail
  all_goals
    go_ret
    refine ⟨?_, rfl⟩
    rw [ltFl_eq]
    simp_all [ordF]
/-- What Least has found among the first i. -/
def LeastOf (μ : Nat → Int) (gr : Bool) (d : Array Nat) (i m : Nat) : Prop := (i = 0 ∨ ∃ j, j < i ∧ m = d[j]!) ∧ ∀ j, j < i → if gr then μ d[j]! ≤ μ m else μ m ≤ μ d[j]!
/-- What Least tells. -/
def LeastTo (w : World) (n : Nat) (fl : Bool) (d : Array Nat) (P : Nat → Prop) (e : Ending) (w' : World) : Prop := ∃ (m : Nat) (b : Bool), e = .returned (.tuple #[.int .u64 (m : Int), .bool b]) ∧ ((b = true → fl = true ∧ ∃ j, j < n ∧ nanF d[j]! = true) ∧ (b = false → (fl = true → ∀ j, j < n → nanF d[j]! = false) ∧ P m)) ∧ w' = w
theorem least_zero {μ : Nat → Int} {gr : Bool} {d : Array Nat} {i x : Nat} (hx : x = d[i]!) (h : i = 0) : LeastOf μ gr d (i + 1) x := by
  subst h
  refine ⟨Or.inr ⟨0, by omega, hx⟩, fun j hj => ?_⟩
  obtain rfl : j = 0 := by omega
  rw [← hx]
  cases gr <;> simp
theorem least_yes {μ : Nat → Int} {gr : Bool} {d : Array Nat} {i m x : Nat} (hx : x = d[i]!) (h : LeastOf μ gr d i m) (hc : (if gr then decide (μ m < μ x) else decide (μ x < μ m)) = true) : LeastOf μ gr d (i + 1) x := by
  refine ⟨Or.inr ⟨i, by omega, hx⟩, fun j hj => ?_⟩
  rcases Nat.lt_or_ge j i with hj' | hj'
  · have := h.2 j hj'
    cases gr <;> simp at hc this ⊢ <;> omega
  · obtain rfl : j = i := by omega
    rw [← hx]
    cases gr <;> simp
theorem least_no {μ : Nat → Int} {gr : Bool} {d : Array Nat} {i m x : Nat} (hx : x = d[i]!) (h : LeastOf μ gr d i m) (hi : ¬ i = 0) (hc : (if gr then decide (μ m < μ x) else decide (μ x < μ m)) = false) : LeastOf μ gr d (i + 1) m := by
  refine ⟨Or.inr ?_, fun j hj => ?_⟩
  · rcases h.1 with h1 | ⟨j, h1, h2⟩
    · exact absurd h1 hi
    · exact ⟨j, by omega, h2⟩
  · rcases Nat.lt_or_ge j i with hj' | hj'
    · exact h.2 j hj'
    · obtain rfl : j = i := by omega
      rw [← hx]
      cases gr <;> simp at hc ⊢ <;> omega

set_option maxHeartbeats 4000000 in
set_option maxRecDepth 1000000 in
theorem least_Fl (a : Option Addr) (cap n : Nat) (d : Array Nat) (w : World) (h : RdU w a d) (hn : d.size = n) (hsz : n ≤ 2000) : Calls Try.prog 25 #[.bool true, .slice a n cap, .bool false] w (LeastTo w n true d (LeastOf muF false d n)) := by
  have H : Aside (RdU w a d ∧ d.size = n) := ⟨h, hn⟩
  clear h hn
  go_enter Try.func25, Try.ntmps25
  go_wp2_with fail
  go_loopg [6, 13] n (fun gg vm vi wr => ∃ (m i : Nat), vm = .int .u64 (m : Int) ∧ vi = .int .i64 i ∧ i ≤ n ∧ n - i ≤ gg ∧ Aside (LeastOf muF false d i m) ∧ Aside (∀ j, j < i → nanF d[j]! = false) ∧ wr = w)
  case atStart => exact ⟨0, 0, rfl, rfl, Nat.zero_le _, by omega, ⟨Or.inl rfl, fun j hj => absurd hj (by omega)⟩, fun j hj => absurd hj (by omega), rfl⟩
  case round =>
    obtain ⟨m, i, rfl, rfl, hin, hg, HI, HN, rfl⟩ := hrel
    by_cases hlt : i < n
    · have hltz : (i : Int) < (n : Int) := by omega
      obtain ⟨blk, off, rfl, hbl, hc⟩ := H.out.1 (by rw [H.out.2]; omega)
      obtain ⟨x, hx⟩ : ∃ x, x = d[i]! := ⟨_, rfl⟩
      have c1 := hc i (by rw [H.out.2]; exact hlt)
      rw [← hx] at c1
      have HX : Aside (x = d[i]!) := hx
      have hf := frombits_run x
      clear hx hc
      cases hnan : nanF x with
      | true =>
        have hnb : (FloatKind.f64.format.order x x != some Ordering.eq) = true := hnan
        have HE : Aside (∃ j, j < n ∧ nanF d[j]! = true) := ⟨i, hlt, by rw [← HX.out]; exact hnan⟩
        clear hnan HI HN HX
        go_wp2_with fail
        (try simp only [Exit.inBlock, Exit.then]); refine bodyPost_ret (results_tmp2 rfl _ _ _) rfl ?_
        exact ⟨0, true, rfl, ⟨fun _ => ⟨rfl, HE.out⟩, fun h => absurd h (by decide)⟩, rfl⟩
      | false =>
        have hnb : (FloatKind.f64.format.order x x != some Ordering.eq) = false := hnan
        by_cases hi0 : i = 0
        · have hz : ((i : Int) == 0) = true := by rw [hi0]; rfl
          have I2 : Aside (LeastOf muF false d (i + 1) x) := least_zero HX.out hi0
          have N2 : Aside (∀ j, j < i + 1 → nanF d[j]! = false) := fun j hj => by
            rcases Nat.lt_or_ge j i with h | h
            · exact HN.out j h
            · obtain rfl : j = i := by omega
              rw [← HX.out]; exact hnan
          clear HN hnan
          clear HI HX hi0
          go_wp2_with fail
          go_roundg (n - (i + 1))
          case measure => omega
          case rel => exact ⟨x, i + 1, rfl, by go_num, by omega, Nat.le_refl _, I2, N2, rfl⟩
        · have hz : ((i : Int) == 0) = false := beq_eq_false_iff_ne.2 (by omega)
          obtain ⟨c, hcc⟩ : ∃ c, c = decide (muF x < muF m) := ⟨_, rfl⟩
          have hbf := before_F x m wr
          rw [ltFl_mu, ← hcc] at hbf
          cases c with
          | true =>
            have hcc' : Aside _ := hcc
            clear hcc
            go_wp2_with fail
            refine hbf.mono ?_
            rintro e w' ⟨rfl, rfl⟩
            clear hbf
            have I2 : Aside (LeastOf muF false d (i + 1) x) := least_yes HX.out HI.out hcc'.out.symm
            have N2 : Aside (∀ j, j < i + 1 → nanF d[j]! = false) := fun j hj => by
              rcases Nat.lt_or_ge j i with h | h
              · exact HN.out j h
              · obtain rfl : j = i := by omega
                rw [← HX.out]; exact hnan
            clear HN hnan
            clear HI HX
            go_wp2_with fail
            go_roundg (n - (i + 1))
            case measure => omega
            case rel => exact ⟨x, i + 1, rfl, by go_num, by omega, Nat.le_refl _, I2, N2, rfl⟩
          | false =>
            have hcc' : Aside _ := hcc
            clear hcc
            go_wp2_with fail
            refine hbf.mono ?_
            rintro e w' ⟨rfl, rfl⟩
            clear hbf
            have I2 : Aside (LeastOf muF false d (i + 1) m) := least_no HX.out HI.out hi0 hcc'.out.symm
            have N2 : Aside (∀ j, j < i + 1 → nanF d[j]! = false) := fun j hj => by
              rcases Nat.lt_or_ge j i with h | h
              · exact HN.out j h
              · obtain rfl : j = i := by omega
                rw [← HX.out]; exact hnan
            clear HN hnan
            clear HI HX
            go_wp2_with fail
            go_roundg (n - (i + 1))
            case measure => omega
            case rel => exact ⟨m, i + 1, rfl, by go_num, by omega, Nat.le_refl _, I2, N2, rfl⟩
    · have hltz : ¬ (i : Int) < (n : Int) := by omega
      have e : i = n := by omega
      subst e
      go_wp2_with fail
      (try simp only [Exit.inBlock, Exit.then]); refine bodyPost_ret (results_tmp2 rfl _ _ _) rfl ?_
      exact ⟨m, false, rfl, ⟨fun h => absurd h (by decide), fun _ => ⟨fun _ => HN.out, HI.out⟩⟩, rfl⟩

set_option maxHeartbeats 4000000 in
set_option maxRecDepth 1000000 in
theorem least_Fg (a : Option Addr) (cap n : Nat) (d : Array Nat) (w : World) (h : RdU w a d) (hn : d.size = n) (hsz : n ≤ 2000) : Calls Try.prog 25 #[.bool true, .slice a n cap, .bool true] w (LeastTo w n true d (LeastOf muF true d n)) := by
  have H : Aside (RdU w a d ∧ d.size = n) := ⟨h, hn⟩
  clear h hn
  go_enter Try.func25, Try.ntmps25
  go_wp2_with fail
  go_loopg [6, 13] n (fun gg vm vi wr => ∃ (m i : Nat), vm = .int .u64 (m : Int) ∧ vi = .int .i64 i ∧ i ≤ n ∧ n - i ≤ gg ∧ Aside (LeastOf muF true d i m) ∧ Aside (∀ j, j < i → nanF d[j]! = false) ∧ wr = w)
  case atStart => exact ⟨0, 0, rfl, rfl, Nat.zero_le _, by omega, ⟨Or.inl rfl, fun j hj => absurd hj (by omega)⟩, fun j hj => absurd hj (by omega), rfl⟩
  case round =>
    obtain ⟨m, i, rfl, rfl, hin, hg, HI, HN, rfl⟩ := hrel
    by_cases hlt : i < n
    · have hltz : (i : Int) < (n : Int) := by omega
      obtain ⟨blk, off, rfl, hbl, hc⟩ := H.out.1 (by rw [H.out.2]; omega)
      obtain ⟨x, hx⟩ : ∃ x, x = d[i]! := ⟨_, rfl⟩
      have c1 := hc i (by rw [H.out.2]; exact hlt)
      rw [← hx] at c1
      have HX : Aside (x = d[i]!) := hx
      have hf := frombits_run x
      clear hx hc
      cases hnan : nanF x with
      | true =>
        have hnb : (FloatKind.f64.format.order x x != some Ordering.eq) = true := hnan
        have HE : Aside (∃ j, j < n ∧ nanF d[j]! = true) := ⟨i, hlt, by rw [← HX.out]; exact hnan⟩
        clear hnan HI HN HX
        go_wp2_with fail
        (try simp only [Exit.inBlock, Exit.then]); refine bodyPost_ret (results_tmp2 rfl _ _ _) rfl ?_
        exact ⟨0, true, rfl, ⟨fun _ => ⟨rfl, HE.out⟩, fun h => absurd h (by decide)⟩, rfl⟩
      | false =>
        have hnb : (FloatKind.f64.format.order x x != some Ordering.eq) = false := hnan
        by_cases hi0 : i = 0
        · have hz : ((i : Int) == 0) = true := by rw [hi0]; rfl
          have I2 : Aside (LeastOf muF true d (i + 1) x) := least_zero HX.out hi0
          have N2 : Aside (∀ j, j < i + 1 → nanF d[j]! = false) := fun j hj => by
            rcases Nat.lt_or_ge j i with h | h
            · exact HN.out j h
            · obtain rfl : j = i := by omega
              rw [← HX.out]; exact hnan
          clear HN hnan
          clear HI HX hi0
          go_wp2_with fail
          go_roundg (n - (i + 1))
          case measure => omega
          case rel => exact ⟨x, i + 1, rfl, by go_num, by omega, Nat.le_refl _, I2, N2, rfl⟩
        · have hz : ((i : Int) == 0) = false := beq_eq_false_iff_ne.2 (by omega)
          obtain ⟨c, hcc⟩ : ∃ c, c = decide (muF m < muF x) := ⟨_, rfl⟩
          have hbf := before_F m x wr
          rw [ltFl_mu, ← hcc] at hbf
          cases c with
          | true =>
            have hcc' : Aside _ := hcc
            clear hcc
            go_wp2_with fail
            refine hbf.mono ?_
            rintro e w' ⟨rfl, rfl⟩
            clear hbf
            have I2 : Aside (LeastOf muF true d (i + 1) x) := least_yes HX.out HI.out hcc'.out.symm
            have N2 : Aside (∀ j, j < i + 1 → nanF d[j]! = false) := fun j hj => by
              rcases Nat.lt_or_ge j i with h | h
              · exact HN.out j h
              · obtain rfl : j = i := by omega
                rw [← HX.out]; exact hnan
            clear HN hnan
            clear HI HX
            go_wp2_with fail
            go_roundg (n - (i + 1))
            case measure => omega
            case rel => exact ⟨x, i + 1, rfl, by go_num, by omega, Nat.le_refl _, I2, N2, rfl⟩
          | false =>
            have hcc' : Aside _ := hcc
            clear hcc
            go_wp2_with fail
            refine hbf.mono ?_
            rintro e w' ⟨rfl, rfl⟩
            clear hbf
            have I2 : Aside (LeastOf muF true d (i + 1) m) := least_no HX.out HI.out hi0 hcc'.out.symm
            have N2 : Aside (∀ j, j < i + 1 → nanF d[j]! = false) := fun j hj => by
              rcases Nat.lt_or_ge j i with h | h
              · exact HN.out j h
              · obtain rfl : j = i := by omega
                rw [← HX.out]; exact hnan
            clear HN hnan
            clear HI HX
            go_wp2_with fail
            go_roundg (n - (i + 1))
            case measure => omega
            case rel => exact ⟨m, i + 1, rfl, by go_num, by omega, Nat.le_refl _, I2, N2, rfl⟩
    · have hltz : ¬ (i : Int) < (n : Int) := by omega
      have e : i = n := by omega
      subst e
      go_wp2_with fail
      (try simp only [Exit.inBlock, Exit.then]); refine bodyPost_ret (results_tmp2 rfl _ _ _) rfl ?_
      exact ⟨m, false, rfl, ⟨fun h => absurd h (by decide), fun _ => ⟨fun _ => HN.out, HI.out⟩⟩, rfl⟩

set_option maxHeartbeats 4000000 in
set_option maxRecDepth 1000000 in
theorem least_Il (a : Option Addr) (cap n : Nat) (d : Array Nat) (w : World) (h : RdU w a d) (hn : d.size = n) (hsz : n ≤ 2000) : Calls Try.prog 25 #[.bool false, .slice a n cap, .bool false] w (LeastTo w n false d (LeastOf toI false d n)) := by
  have H : Aside (RdU w a d ∧ d.size = n) := ⟨h, hn⟩
  clear h hn
  go_enter Try.func25, Try.ntmps25
  go_wp2_with fail
  go_loopg [6, 13] n (fun gg vm vi wr => ∃ (m i : Nat), vm = .int .u64 (m : Int) ∧ vi = .int .i64 i ∧ i ≤ n ∧ n - i ≤ gg ∧ Aside (LeastOf toI false d i m) ∧ Aside (True) ∧ wr = w)
  case atStart => exact ⟨0, 0, rfl, rfl, Nat.zero_le _, by omega, ⟨Or.inl rfl, fun j hj => absurd hj (by omega)⟩, trivial, rfl⟩
  case round =>
    obtain ⟨m, i, rfl, rfl, hin, hg, HI, HN, rfl⟩ := hrel
    by_cases hlt : i < n
    · have hltz : (i : Int) < (n : Int) := by omega
      obtain ⟨blk, off, rfl, hbl, hc⟩ := H.out.1 (by rw [H.out.2]; omega)
      obtain ⟨x, hx⟩ : ∃ x, x = d[i]! := ⟨_, rfl⟩
      have c1 := hc i (by rw [H.out.2]; exact hlt)
      rw [← hx] at c1
      have HX : Aside (x = d[i]!) := hx
      have hf := frombits_run x
      clear hx hc
      by_cases hi0 : i = 0
      · have hz : ((i : Int) == 0) = true := by rw [hi0]; rfl
        have I2 : Aside (LeastOf toI false d (i + 1) x) := least_zero HX.out hi0
        clear HI HX hi0
        go_wp2_with fail
        go_roundg (n - (i + 1))
        case measure => omega
        case rel => exact ⟨x, i + 1, rfl, by go_num, by omega, Nat.le_refl _, I2, trivial, rfl⟩
      · have hz : ((i : Int) == 0) = false := beq_eq_false_iff_ne.2 (by omega)
        obtain ⟨c, hcc⟩ : ∃ c, c = decide (toI x < toI m) := ⟨_, rfl⟩
        have hbf := before_I x m wr
        rw [← hcc] at hbf
        cases c with
        | true =>
          have hcc' : Aside _ := hcc
          clear hcc
          go_wp2_with fail
          refine hbf.mono ?_
          rintro e w' ⟨rfl, rfl⟩
          clear hbf
          have I2 : Aside (LeastOf toI false d (i + 1) x) := least_yes HX.out HI.out hcc'.out.symm
          clear HI HX
          go_wp2_with fail
          go_roundg (n - (i + 1))
          case measure => omega
          case rel => exact ⟨x, i + 1, rfl, by go_num, by omega, Nat.le_refl _, I2, trivial, rfl⟩
        | false =>
          have hcc' : Aside _ := hcc
          clear hcc
          go_wp2_with fail
          refine hbf.mono ?_
          rintro e w' ⟨rfl, rfl⟩
          clear hbf
          have I2 : Aside (LeastOf toI false d (i + 1) m) := least_no HX.out HI.out hi0 hcc'.out.symm
          clear HI HX
          go_wp2_with fail
          go_roundg (n - (i + 1))
          case measure => omega
          case rel => exact ⟨m, i + 1, rfl, by go_num, by omega, Nat.le_refl _, I2, trivial, rfl⟩
    · have hltz : ¬ (i : Int) < (n : Int) := by omega
      have e : i = n := by omega
      subst e
      go_wp2_with fail
      (try simp only [Exit.inBlock, Exit.then]); refine bodyPost_ret (results_tmp2 rfl _ _ _) rfl ?_
      exact ⟨m, false, rfl, ⟨fun h => absurd h (by decide), fun _ => ⟨fun h => absurd h (by decide), HI.out⟩⟩, rfl⟩

set_option maxHeartbeats 4000000 in
set_option maxRecDepth 1000000 in
theorem least_Ig (a : Option Addr) (cap n : Nat) (d : Array Nat) (w : World) (h : RdU w a d) (hn : d.size = n) (hsz : n ≤ 2000) : Calls Try.prog 25 #[.bool false, .slice a n cap, .bool true] w (LeastTo w n false d (LeastOf toI true d n)) := by
  have H : Aside (RdU w a d ∧ d.size = n) := ⟨h, hn⟩
  clear h hn
  go_enter Try.func25, Try.ntmps25
  go_wp2_with fail
  go_loopg [6, 13] n (fun gg vm vi wr => ∃ (m i : Nat), vm = .int .u64 (m : Int) ∧ vi = .int .i64 i ∧ i ≤ n ∧ n - i ≤ gg ∧ Aside (LeastOf toI true d i m) ∧ Aside (True) ∧ wr = w)
  case atStart => exact ⟨0, 0, rfl, rfl, Nat.zero_le _, by omega, ⟨Or.inl rfl, fun j hj => absurd hj (by omega)⟩, trivial, rfl⟩
  case round =>
    obtain ⟨m, i, rfl, rfl, hin, hg, HI, HN, rfl⟩ := hrel
    by_cases hlt : i < n
    · have hltz : (i : Int) < (n : Int) := by omega
      obtain ⟨blk, off, rfl, hbl, hc⟩ := H.out.1 (by rw [H.out.2]; omega)
      obtain ⟨x, hx⟩ : ∃ x, x = d[i]! := ⟨_, rfl⟩
      have c1 := hc i (by rw [H.out.2]; exact hlt)
      rw [← hx] at c1
      have HX : Aside (x = d[i]!) := hx
      have hf := frombits_run x
      clear hx hc
      by_cases hi0 : i = 0
      · have hz : ((i : Int) == 0) = true := by rw [hi0]; rfl
        have I2 : Aside (LeastOf toI true d (i + 1) x) := least_zero HX.out hi0
        clear HI HX hi0
        go_wp2_with fail
        go_roundg (n - (i + 1))
        case measure => omega
        case rel => exact ⟨x, i + 1, rfl, by go_num, by omega, Nat.le_refl _, I2, trivial, rfl⟩
      · have hz : ((i : Int) == 0) = false := beq_eq_false_iff_ne.2 (by omega)
        obtain ⟨c, hcc⟩ : ∃ c, c = decide (toI m < toI x) := ⟨_, rfl⟩
        have hbf := before_I m x wr
        rw [← hcc] at hbf
        cases c with
        | true =>
          have hcc' : Aside _ := hcc
          clear hcc
          go_wp2_with fail
          refine hbf.mono ?_
          rintro e w' ⟨rfl, rfl⟩
          clear hbf
          have I2 : Aside (LeastOf toI true d (i + 1) x) := least_yes HX.out HI.out hcc'.out.symm
          clear HI HX
          go_wp2_with fail
          go_roundg (n - (i + 1))
          case measure => omega
          case rel => exact ⟨x, i + 1, rfl, by go_num, by omega, Nat.le_refl _, I2, trivial, rfl⟩
        | false =>
          have hcc' : Aside _ := hcc
          clear hcc
          go_wp2_with fail
          refine hbf.mono ?_
          rintro e w' ⟨rfl, rfl⟩
          clear hbf
          have I2 : Aside (LeastOf toI true d (i + 1) m) := least_no HX.out HI.out hi0 hcc'.out.symm
          clear HI HX
          go_wp2_with fail
          go_roundg (n - (i + 1))
          case measure => omega
          case rel => exact ⟨m, i + 1, rfl, by go_num, by omega, Nat.le_refl _, I2, trivial, rfl⟩
    · have hltz : ¬ (i : Int) < (n : Int) := by omega
      have e : i = n := by omega
      subst e
      go_wp2_with fail
      (try simp only [Exit.inBlock, Exit.then]); refine bodyPost_ret (results_tmp2 rfl _ _ _) rfl ?_
      exact ⟨m, false, rfl, ⟨fun h => absurd h (by decide), fun _ => ⟨fun h => absurd h (by decide), HI.out⟩⟩, rfl⟩
end Go.Proofs.Ytglgmkikegbchaa

/- spec.InOrder. -/
namespace Go.Proofs.Ytglgmkikegbchaa
open Go.RowKit Go.Sort Go.Maps

abbrev vU (x : Nat) : Value := .int .u64 (x : Int)
def okU (x : Nat) : Prop := x < 18446744073709551616
theorem vU_inj (x y : Nat) (h : vU x = vU y) : x = y := by simp [vU] at h; omega
theorem okU_wf {x : Nat} (h : okU x) : (Lit.int .u64 (x : Int)).wf = true := by
  unfold okU at h
  simp only [Lit.wf, IntKind.min, IntKind.max, IntKind.signed, IntKind.bits, Bool.and_eq_true]
  simp
  omega
theorem keyOf_u (x : Nat) (h : okU x) : ∃ l, keyOf Try.prog 23 (vU x) = some l := ⟨_, keyOf_int_mk Try.underlying23 (okU_wf h)⟩
theorem lawU : Keyed Try.prog 23 := int_keyed Try.underlying23
theorem zeroIntU (u : World) : (zeroValue 3).run Try.prog u = .ok (.int .i64 0) u := by kernel_rfl

/-- How often a word stands in a list. -/
def cntU (l : List Nat) (y : Nat) : Int := (l.count y : Nat)
theorem cntU_snoc (l : List Nat) (x y : Nat) : cntU (l ++ [x]) y = if y = x then cntU l x + 1 else cntU l y := by
  unfold cntU
  rw [List.count_append]
  by_cases e : y = x
  · subst e; simp
  · have e' : ¬ x = y := fun h => e h.symm
    simp [e, e']
theorem cntU_le (l : List Nat) (y : Nat) : 0 ≤ cntU l y ∧ cntU l y ≤ l.length := ⟨by unfold cntU; omega, by unfold cntU; have := List.count_le_length (a := y) (l := l); omega⟩
theorem cntU_less (D l : List Nat) (x y : Nat) : cntU D y - cntU (l ++ [x]) y = if y = x then cntU D x - cntU l x - 1 else cntU D y - cntU l y := by
  rw [cntU_snoc]
  by_cases e : y = x
  · subst e; simp; omega
  · simp [e]
theorem takeU_snoc {d : Array Nat} {i : Nat} (hi : i < d.size) : d.toList.take (i + 1) = d.toList.take i ++ [d[i]!] := by
  rw [List.take_succ_eq_append_getElem (by simpa using hi), getElem!_pos d i hi]; rfl

/-- The order that InOrder asks for. -/
def bef (fl : Bool) (x y : Nat) : Bool := if fl then ltFl x y else decide (toI x < toI y)
theorem before_calls (fl : Bool) (x y : Nat) (w : World) : Calls Try.prog 57 #[.bool fl, .int .u64 (x : Int), .int .u64 (y : Int)] w fun e w' => e = .returned (.bool (bef fl x y)) ∧ w' = w := by
  cases fl
  · exact before_I x y w
  · exact before_F x y w

set_option maxHeartbeats 8000000 in
set_option maxRecDepth 1000000 in
theorem inOrder_calls (fl : Bool) (a a' : Option Addr) (cap cap' n : Nat) (d d' : Array Nat) (w : World) (h : RdU w a d) (h' : RdU w a' d') (hn : d.size = n) (hsz : n ≤ 2000) (hr : ∀ i, i < n → d[i]! < 18446744073709551616) (hp : d'.toList.Perm d.toList) (hs : ∀ i, 0 < i → i < n → bef fl d'[i]! d'[i - 1]! = false) :
    Calls Try.prog 31 #[.bool fl, .slice a n cap, .slice a' n cap'] w fun e w' => e = .returned (.bool true) ∧ Below w.heap.size w w' := by
  have hn' : d'.size = n := by have := hp.length_eq; simp at this; omega
  have hr' : ∀ i, i < n → d'[i]! < 18446744073709551616 := fun i hi => by
    have hm : d'[i]! ∈ d'.toList := by rw [getElem!_pos d' i (by omega)]; simp
    obtain ⟨j, hj, e⟩ := List.mem_iff_getElem.1 (hp.mem_iff.1 hm)
    have hj' : j < d.size := by simpa using hj
    have := hr j (by omega)
    rw [getElem!_pos d j hj'] at this
    rw [← e]
    simpa using this
  have H : Aside (RdU w a d ∧ d.size = n ∧ ∀ i, i < n → okU d[i]!) := ⟨h, hn, hr⟩
  have H' : Aside (RdU w a' d' ∧ d'.size = n ∧ ∀ i, i < n → okU d'[i]!) := ⟨h', hn', hr'⟩
  have HS : Aside (∀ i, 0 < i → i < n → bef fl d'[i]! d'[i - 1]! = false) := hs
  have HP : Aside (∀ y, cntU d.toList y - cntU d'.toList y = 0) := fun y => by unfold cntU; rw [hp.count_eq]; omega
  have hmm := @run_makeMap Try.prog
  clear h h' hn hn' hr hr' hp hs
  go_enter Try.func31, Try.ntmps31
  have M0 : Aside (CM vU okU (w.alloc (.map #[] 0)) w.heap.size (cntU []) ∧ Below w.heap.size w (w.alloc (.map #[] 0))) := ⟨cm_made w, below_alloc _ _⟩
  go_wp2_with fail
  go_loopg [17] n (fun g vi wr => ∃ i : Nat, vi = .int .i64 i ∧ i ≤ n ∧ n - i ≤ g ∧ Aside (CM vU okU wr w.heap.size (cntU (d.toList.take i)) ∧ Below w.heap.size w wr))
  case atStart => exact ⟨0, rfl, Nat.zero_le _, by omega, M0⟩
  case round =>
    clear M0
    obtain ⟨i, rfl, hin, hg, HM⟩ := hrel
    by_cases hlt : i < n
    · have hltz : (i : Int) < (n : Int) := by omega
      obtain ⟨blk, off, rfl, hbl, hc⟩ := H.out.1 (by rw [H.out.2.1]; omega)
      obtain ⟨x, hx⟩ : ∃ x, x = d[i]! := ⟨_, rfl⟩
      have c1 := (HM.out.2.cell (p := ⟨blk, off + i, none⟩) hbl).trans (hc i (by rw [H.out.2.1]; omega))
      rw [← hx] at c1
      have okx : okU x := by rw [hx]; exact H.out.2.2 i hlt
      obtain ⟨l1, V2, es, CV2, g2, z2⟩ := cm_update lawU Try.underlying109 zeroIntU vU_inj keyOf_u HM.out.1 x okx (cntU (d.toList.take i) x + 1)
      have hcl := cntU_le (d.toList.take i) x
      have hll : (d.toList.take i).length ≤ 2000 := by rw [List.length_take]; omega
      obtain ⟨C, hC⟩ : ∃ C, C = cntU (d.toList.take i) x := ⟨_, rfl⟩
      have HN : Aside (CM vU okU V2 w.heap.size (cntU (d.toList.take (i + 1))) ∧ Below w.heap.size w V2) := by
        refine ⟨?_, HM.out.2.grown g2 HM.out.2.size (fun k ek => by cases ek; exact Nat.le_refl _)⟩
        rw [takeU_snoc (by rw [H.out.2.1]; omega), ← hx, show cntU (d.toList.take i ++ [x]) = fun y => if y = x then cntU (d.toList.take i) x + 1 else cntU (d.toList.take i) y from funext (fun y => cntU_snoc _ _ _)]
        exact CV2
      rw [← hC] at l1 es hcl
      have hw1 : IntKind.i64.wrap (C + 1) = C + 1 := by rw [IntKind.wrap_i64]; omega
      have hC0 : 0 ≤ C := hcl.1
      have hC1 : C ≤ 2000 := by omega
      clear hc hx hbl HM okx CV2 g2 z2 hcl hll hC
      go_wp2_with fail
      go_roundg (n - (i + 1))
      case measure => omega
      case rel => exact ⟨i + 1, by go_num, by omega, Nat.le_refl _, HN⟩
    · have hltz : ¬ (i : Int) < (n : Int) := by omega
      have e0 : i = n := by omega
      subst e0
      have M1 : Aside (CM vU okU wr w.heap.size (fun y => cntU d.toList y - cntU (d'.toList.take 0) y) ∧ Below w.heap.size w wr) := by
        refine ⟨?_, HM.out.2⟩
        have h1 := HM.out.1
        rw [show d.toList.take i = d.toList by rw [← H.out.2.1, ← Array.length_toList, List.take_length]] at h1
        rw [show (fun y => cntU d.toList y - cntU (d'.toList.take 0) y) = cntU d.toList from funext (fun y => by simp [cntU])]
        exact h1
      clear HM
      go_wp2_with fail
      go_loopg [28] i (fun g vi wr => ∃ j : Nat, vi = .int .i64 j ∧ j ≤ i ∧ i - j ≤ g ∧ Aside (CM vU okU wr w.heap.size (fun y => cntU d.toList y - cntU (d'.toList.take j) y) ∧ Below w.heap.size w wr))
      case atStart => exact ⟨0, rfl, Nat.zero_le _, by omega, M1⟩
      case round =>
        clear M1
        obtain ⟨n, hnn⟩ : ∃ n, n = i := ⟨_, rfl⟩
        subst hnn
        obtain ⟨i, rfl, hin, hg, HM⟩ := hrel
        by_cases hlt : i < n
        · have hltz : (i : Int) < (n : Int) := by omega
          obtain ⟨blk, off, rfl, hbl, hc⟩ := H'.out.1 (by rw [H'.out.2.1]; omega)
          obtain ⟨x, hx⟩ : ∃ x, x = d'[i]! := ⟨_, rfl⟩
          have c1 := (HM.out.2.cell (p := ⟨blk, off + i, none⟩) hbl).trans (hc i (by rw [H'.out.2.1]; omega))
          rw [← hx] at c1
          have okx : okU x := by rw [hx]; exact H'.out.2.2 i hlt
          obtain ⟨l1, V2, es, CV2, g2, z2⟩ := cm_update lawU Try.underlying109 zeroIntU vU_inj keyOf_u HM.out.1 x okx (cntU d.toList x - cntU (d'.toList.take i) x - 1)
          have hcl := cntU_le (d'.toList.take i) x
          have hcm := cntU_le d.toList x
          have hld : d.toList.length ≤ 2000 := by rw [Array.length_toList, H.out.2.1]; omega
          have hll : (d'.toList.take i).length ≤ 2000 := by rw [List.length_take]; omega
          obtain ⟨C, hC⟩ : ∃ C, C = cntU d.toList x - cntU (d'.toList.take i) x := ⟨_, rfl⟩
          have HN : Aside (CM vU okU V2 w.heap.size (fun y => cntU d.toList y - cntU (d'.toList.take (i + 1)) y) ∧ Below w.heap.size w V2) := by
            refine ⟨?_, HM.out.2.grown g2 HM.out.2.size (fun k ek => by cases ek; exact Nat.le_refl _)⟩
            rw [takeU_snoc (by rw [H'.out.2.1]; omega), ← hx, show (fun y => cntU d.toList y - cntU (d'.toList.take i ++ [x]) y) = fun y => if y = x then cntU d.toList x - cntU (d'.toList.take i) x - 1 else cntU d.toList y - cntU (d'.toList.take i) y from funext (fun y => cntU_less _ _ _ _)]
            exact CV2
          have hcn : -2000 ≤ C ∧ C ≤ 2000 := by omega
          try dsimp only at l1 es
          rw [← hC] at l1 es
          have hw1 : IntKind.i64.wrap (C - 1) = C - 1 := by rw [IntKind.wrap_i64]; omega
          have hC0 : -2000 ≤ C := hcn.1
          have hC1 : C ≤ 2000 := hcn.2
          by_cases hi0 : i = 0
          · have hiz : ¬ (i : Int) > 0 := by omega
            have hiz' : ¬ 0 < i := by omega
            clear hcm hld hcn hc hx hbl HM okx CV2 g2 z2 hcl hll hC hi0
            go_wp2_with fail
            go_roundg (n - (i + 1))
            case measure => omega
            case rel => exact ⟨i + 1, by go_num, by omega, Nat.le_refl _, HN⟩
          · have hiz : (i : Int) > 0 := by omega
            have hiz' : 0 < i := by omega
            have hi1 : 1 ≤ i := by omega
            have hi1z : (1 : Int) ≤ (i : Int) := by omega
            obtain ⟨ip, rfl⟩ : ∃ ip, i = ip + 1 := ⟨i - 1, by omega⟩
            obtain ⟨y, hy⟩ : ∃ y, y = d'[ip]! := ⟨_, rfl⟩
            have c2 : V2.cell? ⟨blk, off + ip, none⟩ = some (.int .u64 (y : Int)) := by
              rw [hy]; exact (HN.out.2.cell (p := ⟨blk, off + ip, none⟩) hbl).trans (hc ip (by rw [H'.out.2.1]; omega))
            have hB := before_calls fl x y V2
            have hsv := HS.out (ip + 1) (by omega) hlt
            rw [Nat.add_sub_cancel, ← hx, ← hy] at hsv
            rw [hsv] at hB
            have hipz : (ip : Int) < (n : Int) := by omega
            clear hcm hld hcn hc hx hy hbl HM okx CV2 g2 z2 hcl hll hC hi0 hsv
            go_wp2_with fail
            refine hB.mono ?_
            rintro e wz ⟨rfl, hwz⟩
            subst wz
            clear hB
            go_wp2_with fail
            go_roundg (n - (ip + 1 + 1))
            case measure => omega
            case rel => exact ⟨ip + 1 + 1, by go_num, by omega, Nat.le_refl _, HN⟩
        · have hltz : ¬ (i : Int) < (n : Int) := by omega
          have e0 : i = n := by omega
          subst e0
          have M2 : Aside (CM vU okU wr w.heap.size (fun y => cntU d.toList y - cntU (d'.toList.take i) y)) := HM.out.1
          have B2 : Aside (Below w.heap.size w wr ∧ w.heap.size ≤ wr.heap.size) := ⟨HM.out.2, HM.out.2.size⟩
          have Z2 : ∀ y, cntU d.toList y - cntU (d'.toList.take i) y = 0 := fun y => by
            rw [show d'.toList.take i = d'.toList by rw [← H'.out.2.1, ← Array.length_toList, List.take_length]]
            exact HP.out y
          have Z3 : Aside _ := Z2
          clear HM Z2
          go_wp2_with (refine wpList_range_cm Try.underlying109 M2 Z3.out rfl _ rfl rfl ?_; intro w' g RZ0 BZ)
          obtain ⟨r, hr⟩ : ∃ r, r = wr.heap.size := ⟨_, rfl⟩
          rw [← hr] at RZ0 ⊢
          have B3 : Aside (Below w.heap.size w w' ∧ w.heap.size ≤ w'.heap.size ∧ w.heap.size ≤ r) := ⟨Below.next B2.out.1 BZ.out, (Below.next B2.out.1 BZ.out).size, by rw [hr]; exact B2.out.2⟩
          clear hr M2 B2 Z3 BZ
          go_loopg [13] g (fun gg _ wr => ∃ q : Nat, q ≤ gg ∧ Aside (RZ vU wr w.heap.size r q ∧ Below w.heap.size w wr ∧ w.heap.size ≤ wr.heap.size))
          case atStart => exact ⟨g, Nat.le_refl _, RZ0.out, B3.out.1, B3.out.2.1⟩
          case round =>
            obtain ⟨q, hq, HR⟩ := hrel
            have R1 : Aside (RZ vU wr w.heap.size r q) := HR.out.1
            go_wp2_with (refine wpList_next_rz R1 rfl _ rfl rfl ?_ (fun y w2 q' hlt R2 hen hgr => ?_))
            · go_ret
              exact ⟨rfl, HR.out.2.1⟩
            · have NR : Aside (RZ vU w2 w.heap.size r q' ∧ Below w.heap.size w w2 ∧ w.heap.size ≤ w2.heap.size) := ⟨R2.out, HR.out.2.1.grown hgr.out HR.out.2.2 (fun k ek => by cases ek; exact B3.out.2.2), Nat.le_trans HR.out.2.2 hgr.out.size⟩
              clear R1 R2 HR hgr
              go_wp2_with fail
              go_roundg q'
              case measure => omega
              case rel => exact ⟨q', Nat.le_refl _, NR⟩
end Go.Proofs.Ytglgmkikegbchaa
