/- impl.Inner, by the keys alone. -/
import Derived.Test.YtglgmkikegbchaaGreatzInnerC
import Derived.Test.YtglgmkikegbchaaGreatWo0
namespace Go.Proofs.YtglgmkikegbchaaGreat
open Go.RowKit Go.Sort

theorem holds2_setKey {w : World} {b i : Nat} {d : Array It} {x : Int} (h : Holds2 w b 0 d) (hi : i < d.size) :
    Holds2 (w.setCell ⟨b, 0 + i * 2, none⟩ (.int .i64 x)) b 0 (d.set! i (x, d[i]!.2)) := fun j hj => by
  have hj' : j < d.size := by simpa using hj
  obtain ⟨h1, h2, h3, h4⟩ := h j hj'
  refine ⟨?_, ?_, by rw [World.frozen?_setCell]; exact h3, by rw [World.frozen?_setCell]; exact h4⟩
  · by_cases e : j = i
    · subst e
      rw [World.cell?_setCell_same _ _ _ h1, Array.set!_eq_setIfInBounds, getElem!_pos _ _ (by simpa using hj'), Array.getElem_setIfInBounds_self]
    · rw [World.cell?_setCell_other _ _ _ _ (by intro he; injection he with _ he; omega), h1, Array.set!_eq_setIfInBounds, getElem!_pos (d.setIfInBounds _ _) _ (by simpa using hj'), Array.getElem_setIfInBounds_ne _ (by omega), getElem!_pos d j hj']
  · rw [World.cell?_setCell_other _ _ _ _ (by intro he; injection he with _ he; omega), h2]
    by_cases e : j = i
    · subst e
      rw [Array.set!_eq_setIfInBounds, getElem!_pos (d.setIfInBounds _ _) _ (by simpa using hj'), Array.getElem_setIfInBounds_self]
    · rw [Array.set!_eq_setIfInBounds, getElem!_pos (d.setIfInBounds _ _) _ (by simpa using hj'), Array.getElem_setIfInBounds_ne _ (by omega), getElem!_pos d j hj']

theorem own_grown' {B : Nat} {w0 w w' : World} {base : Nat} {e : TypeId} {size n : Nat} {v : Value} {xs : List Value} (h : w.ownsRow base e size v n xs) (hb : Below B w0 w) (hB : B ≤ base) (hBw : B ≤ w.heap.size) (hg : w.grownBy w' v.ownBlock) : Below B w0 w' := by
  refine hb.grown hg hBw (fun k ek => ?_)
  obtain ⟨_, ⟨rfl, _⟩ | ⟨g, cap, cur, rfl, e2, _⟩⟩ := h
  · cases ek
  · cases ek; exact Nat.le_trans hB e2

/-- Keys without tags. -/
def bare (ks : Array Int) : Array It := ks.map fun k => (k, 0)
theorem bare_size (ks : Array Int) : (bare ks).size = ks.size := by simp [bare]
theorem bare_get (ks : Array Int) (i : Nat) (h : i < ks.size) : (bare ks)[i]! = (ks[i]!, 0) := by
  rw [getElem!_pos _ _ (by rw [bare_size]; exact h), getElem!_pos ks i h]; simp [bare]

theorem own_row1 {w : World} {base n : Nat} {v : Value} {l : List Int} (h : w.ownsRow base 2 1 v n (l.map (Value.int .i64))) :
    v = .slice none 0 0 ∨ ∃ g cap, v = .slice (some ⟨g, 0, none⟩) n cap ∧ base ≤ g ∧ g < w.heap.size ∧ n ≤ cap ∧ Holds e64 w g 0 l.toArray := by
  obtain ⟨hl, ⟨rfl, h0⟩ | ⟨g, cap, cur, rfl, hb, hg, hnc, _, hcs, ht⟩⟩ := h
  · exact Or.inl rfl
  · have hgl : g < w.heap.size := by
      rcases Nat.lt_or_ge g w.heap.size with h | h
      · exact h
      · rw [Array.getElem?_eq_none h] at hg; cases hg
    rw [Nat.mul_one] at ht hl
    have hll : l.length = n := by simpa using hl
    refine Or.inr ⟨g, cap, rfl, hb, hgl, hnc, fun i hi => ?_⟩
    have hi' : i < l.length := by simpa using hi
    refine ⟨?_, by simp [World.frozen?, hg]⟩
    have hu : (l.map (Value.int .i64))[i]? = some (e64 l.toArray[i]!) := by
      rw [List.getElem?_map, List.getElem?_eq_getElem hi', getElem!_pos l.toArray i hi]; rfl
    rw [← ht, List.getElem?_take_of_lt (by omega)] at hu
    simp only [World.cell?, hg, Nat.zero_add]
    simpa using hu

set_option maxHeartbeats 4000000 in
set_option maxRecDepth 1000000 in
theorem inner_o (f : Int) (a : Option Addr) (cap : Nat) (ks ks' : Array Int) (o : Ordr) (hk0 : o.kind = 0) (na : Option Addr) (n ncap : Nat) (ns nums : Array Int) (w : World) (h : Rd2 w a (bare ks)) (hN : RdN w na ns) (hsz : ks.size ≤ 2000) (hd : ks'.size = ks.size)
    (hm : ∀ W, Calls Tryz.prog 40 #[.int .i64 f] W fun e w' => e = .returned (.int .i64 n) ∧ w' = W)
    (HB : ∀ (W : World) (b cap' : Nat), b < W.heap.size → Holds e64 W b 0 ks → RdN W na ns → Calls Tryz.prog 45 #[.int .i64 f, .slice (some ⟨b, 0, none⟩) ks.size cap', .slice na n ncap] W fun e W' => ∃ nv, e = .returned nv ∧ St1 e64 W b 0 ks' W' ∧ NumsAt W W' nv nums) :
    Calls Tryz.prog 28 #[.int .i64 2, .int .i64 f, .slice a ks.size cap, vOrd o, .slice na n ncap] w (InnerTo w (bare ks') nums) := by
  have H : Aside (Rd2 w a (bare ks) ∧ RdN w na ns) := ⟨h, hN⟩
  have hB : Aside (∀ (W : World) (b cap' : Nat), b < W.heap.size → Holds e64 W b 0 ks → RdN W na ns → Calls Tryz.prog 45 #[.int .i64 f, .slice (some ⟨b, 0, none⟩) ks.size cap', .slice na n ncap] W fun e W' => ∃ nv, e = .returned nv ∧ St1 e64 W b 0 ks' W' ∧ NumsAt W W' nv nums) := HB
  have D : Aside (ks'.size = ks.size) := hd
  obtain ⟨N, hNs⟩ : ∃ N, N = ks.size := ⟨_, rfl⟩
  have E : Aside (ks.size = N) := hNs.symm
  rw [← hNs]
  clear h hN HB hd
  obtain ⟨k, s, m0, m1, m2⟩ := o
  dsimp only at hk0
  subst hk0
  obtain ⟨i0, hi, hz0, hz1, hz2⟩ := info_parts (show (Tryz.prog.info? 2).map (fun i => (i.zero, i.size, i.bytes)) = some (some (.int .i64 0), 1, 8) by kernel_rfl)
  have hI : Aside (Tryz.prog.info? 2 = some i0 ∧ i0.zero = some (.int .i64 0) ∧ i0.size = 1 ∧ i0.bytes = 8) := ⟨hi, hz0, hz1, hz2⟩
  have hN2 : N ≤ 2000 := by omega
  clear hi hz0 hz1 hz2 hNs hsz
  go_enter_defers Tryz.func28, Tryz.ntmps28
  go_wp2_with fail
  refine (hm _).mono ?_
  rintro e W0 ⟨rfl, rfl⟩
  go_wp2_with fail
  have BX : Below w.heap.size w ((((w.alloc (.cells #[.int .i64 0, .int .i64 s, .int .u64 m0, .int .u64 m1, .int .u64 m2] 26)).alloc (.cells #[.slice none 0 0] 22)).alloc (.cells #[.slice none 0 0] 29)).alloc (.cells #[.bool false] 4)) :=
    Below.next (Below.next (Below.next (below_alloc _ _) (below_alloc _ _)) (below_alloc _ _)) (below_alloc _ _)
  have hcc := copied_calls a cap (bare ks) _ (H.out.1.keep BX) (by rw [bare_size, E.out]; exact hN2)
  rw [bare_size, E.out] at hcc
  refine hcc.mono ?_
  clear hcc
  rintro e w1 ⟨v, rfl, b, c2, rfl, hb1, hb2, hcap, hH, hbel⟩
  rw [bare_size, E.out] at hcap
  rw [bare_size, E.out]
  simp only [World.size_alloc] at hb1 hbel
  have hsz1 : w.heap.size + 4 ≤ w1.heap.size := by have := hbel.size; simpa using this
  obtain ⟨hb0, hb10, hb11, hb12⟩ := boxes4 hbel
  have k0 := cell_at (i := 0) hb0 rfl
  have k1 := cell_at (i := 1) hb0 rfl
  have k2 := cell_at (i := 2) hb0 rfl
  have k3 := cell_at (i := 3) hb0 rfl
  have k4 := cell_at (i := 4) hb0 rfl
  have c10 := cell_at (i := 0) hb10 rfl
  have f10 := frozen_at (i := 0) hb10
  have c11 := cell_at (i := 0) hb11 rfl
  have f11 := frozen_at (i := 0) hb11
  have c12 := cell_at (i := 0) hb12 rfl
  have f12 := frozen_at (i := 0) hb12
  clear hb0 hb10 hb11 hb12
  have B1 : Aside (Below w.heap.size w w1) := BX.trans (hbel.mono (by omega))
  have HH : Aside (Holds2 w1 b 0 (bare ks) ∧ RdN w na ns) := ⟨hH, H.out.2⟩
  clear hH hbel BX H
  go_upto_region 16 with fail
  obtain ⟨W, hW⟩ : ∃ W, W = (w1.setCell ⟨w.heap.size + 1, 0, none⟩ (.slice (some ⟨b, 0, none⟩) N c2)).alloc (.cells #[] 2) := ⟨_, rfl⟩
  rw [← hW]
  have ho : ∀ k, k < w1.heap.size → k ≠ w.heap.size + 1 → W.heap[k]? = w1.heap[k]? := fun k h1 h2 => by
    rw [hW, heap_alloc_old _ _ (by simpa using h1)]
    exact Below.heap_setCell _ _ _ _ h2
  have szW : W.heap.size = w1.heap.size + 1 := by rw [hW]; simp
  have BW : Aside (Below w.heap.size w W) := by show Below _ _ _; rw [hW]; exact (B1.out.setCell (by dsimp only; omega) _).alloc (by simp; omega) _
  have FW : Aside (W.cell? ⟨w.heap.size + 1, 0, none⟩ = some (.slice (some ⟨b, 0, none⟩) N c2) ∧ W.frozen? ⟨w.heap.size + 1, 0, none⟩ = false ∧ W.cell? ⟨w.heap.size + 1 + 1, 0, none⟩ = some (.slice none 0 0) ∧ W.frozen? ⟨w.heap.size + 1 + 1, 0, none⟩ = false ∧ W.cell? ⟨w.heap.size + 1 + 1 + 1, 0, none⟩ = some (.bool false) ∧ W.frozen? ⟨w.heap.size + 1 + 1 + 1, 0, none⟩ = false) := by
    have hx : ∀ p : Addr, p.block < w1.heap.size → W.cell? p = (w1.setCell ⟨w.heap.size + 1, 0, none⟩ (.slice (some ⟨b, 0, none⟩) N c2)).cell? p := fun p hp => by rw [hW]; exact World.cell?_of_block (heap_alloc_old _ _ (by simpa using hp))
    have hy : ∀ p : Addr, p.block < w1.heap.size → W.frozen? p = w1.frozen? p := fun p hp => by rw [hW]; exact (World.frozen?_of_block (heap_alloc_old _ _ (by simpa using hp))).trans (World.frozen?_setCell _ _ _ _)
    exact ⟨(hx _ (by dsimp only; omega)).trans (World.cell?_setCell_same _ _ _ c10), (hy _ (by dsimp only; omega)).trans f10, (World.cell?_of_block (ho _ (by dsimp only; omega) (by dsimp only; omega))).trans c11, (hy _ (by dsimp only; omega)).trans f11, (World.cell?_of_block (ho _ (by dsimp only; omega) (by dsimp only; omega))).trans c12, (hy _ (by dsimp only; omega)).trans f12⟩
  have HW : Aside (Holds2 W b 0 (bare ks) ∧ RdN W na ns) := ⟨Holds2_of_block (ho b hb2 (by omega)) HH.out.1, HH.out.2.keep BW.out⟩
  have OW : Aside (W.ownsRow w1.heap.size 2 1 (.slice (some ⟨w1.heap.size, 0, none⟩) 0 0) 0 ((ks.toList.take 0).map (Value.int .i64))) := ⟨rfl, Or.inr ⟨_, 0, #[], rfl, Nat.le_refl _, by rw [hW]; have := heap_alloc_new (w1.setCell ⟨w.heap.size + 1, 0, none⟩ (.slice (some ⟨b, 0, none⟩) N c2)) (.cells #[] 2); simpa using this, Nat.le_refl _, by decide, rfl, rfl⟩⟩
  have HN : Aside (RdN w na ns) := HH.out.2
  have q10 := FW.out.1
  clear k0 k1 k2 k3 k4 c10 f10 c11 f11 c12 f12 B1 HH ho hW
  go_wp2_with fail
  go_loopg [13, 51] N (fun g vk vi wr => ∃ i : Nat, vi = .int .i64 i ∧ i ≤ N ∧ N - i ≤ g ∧ Aside (wr.ownsRow w1.heap.size 2 1 vk i ((ks.toList.take i).map (Value.int .i64)) ∧ Below w1.heap.size W wr ∧ ¬ vk = .slice none 0 0))
  case atStart => exact ⟨0, rfl, Nat.zero_le _, by omega, OW, Below.refl _ _, by simp⟩
  case round =>
    obtain ⟨i, rfl, hin, hg, HO⟩ := hrel
    by_cases hlt : i < N
    · have hltz : (i : Int) < (N : Int) := by omega
      obtain ⟨x, hx⟩ : ∃ x, x = ks[i]! := ⟨_, rfl⟩
      have hh := HW.out.1 i (by rw [bare_size, E.out]; exact hlt)
      rw [bare_get _ _ (by rw [E.out]; exact hlt), ← hx] at hh
      have q1 := (HO.out.2.1.cell (p := ⟨b, 0 + i * 2, none⟩) hb2).trans hh.1
      have q2 := (HO.out.2.1.cell (p := ⟨b, 0 + i * 2 + 1, none⟩) hb2).trans hh.2.1
      rw [Nat.zero_add] at q1 q2
      dsimp only at q1 q2
      have szr := HO.out.2.1.size
      have O2 : Aside (((wr.alloc (.cells #[.int .i64 x, .int .i64 0] 49)).alloc (.cells #[.int .i64 x] 2)).ownsRow w1.heap.size 2 1 u13 i ((ks.toList.take i).map (Value.int .i64))) := own_below (own_below HO.out.1 (below_alloc _ _)) (below_alloc _ _)
      have B2 : Aside (Below w1.heap.size W ((wr.alloc (.cells #[.int .i64 x, .int .i64 0] 49)).alloc (.cells #[.int .i64 x] 2)) ∧ ¬ u13 = .slice none 0 0) := ⟨(HO.out.2.1.alloc (by omega) _).alloc (by simp; omega) _, HO.out.2.2⟩
      have X : Aside ((ks.toList.take (i + 1)).map (Value.int .i64) = (ks.toList.take i).map (Value.int .i64) ++ [.int .i64 x]) := by
        show _ = _
        rw [List.take_succ_eq_append_getElem (by simp [E.out]; exact hlt), List.map_append, hx, getElem!_pos ks i (by rw [E.out]; exact hlt)]
        rfl
      obtain ⟨hi, hz0, hz1, hz2⟩ := hI.out
      clear hh HO hx
      go_wp2_with (at_builtin; refine wpList_append_own _ rfl _ _ 62 rfl w1.heap.size 2 i0 (.int .i64 0) 1 8 Tryz.underlying62 hi hz0 hz1 hz2 rfl (by decide) _ i _ rfl O2.out ⟨wr.heap.size + 1, 0, none⟩ 1 1 [.int .i64 x] rfl rfl ?c1 ?c2 ?c3 ?c4 ?c5 ?_)
      case c1 =>
        intro j u hj
        match j, hj with
        | 0, hj => simp at hj; subst hj; simp [Addr.add, go_sem]
      case c2 => intro u hu; simp at hu; subst hu; rfl
      case c3 => unfold maxLen; omega
      case c4 => omega
      case c5 => simp; omega
      intro v' w2 hown' hgrow hnil
      have O3 : Aside (w2.ownsRow w1.heap.size 2 1 v' (i + 1) ((ks.toList.take (i + 1)).map (Value.int .i64)) ∧ Below w1.heap.size W w2 ∧ ¬ v' = .slice none 0 0) := by
        refine ⟨?_, own_grown' O2.out B2.out.1 (Nat.le_refl _) (by simp; omega) hgrow, hnil⟩
        rw [X.out]
        simpa [List.map_take] using hown'
      clear hi hz0 hz1 hz2 q1 q2 O2 B2 hown' hgrow hnil
      go_wp2_with fail
      go_roundg (N - (i + 1))
      case measure => omega
      case rel => exact ⟨i + 1, by go_num, by omega, by omega, O3⟩
    · have hltz : ¬ (i : Int) < (N : Int) := by omega
      have e0 : i = N := by omega
      subst e0
      obtain ⟨hO, hBr, hnn⟩ := HO.out
      have eL : (ks.toList.take i).map (Value.int .i64) = ks.toList.map (Value.int .i64) := by rw [← E.out, ← Array.length_toList, List.take_length]
      rw [eL] at hO
      rcases own_row1 hO with h | ⟨g, kc, rfl, hg1, hg2, hkc, hks⟩
      · exact absurd h hnn
      have hks' : Holds e64 wr g 0 ks := hks
      have szr := hBr.size
      have HY : Aside (Holds2 wr b 0 (bare ks) ∧ b < wr.heap.size ∧ Below w.heap.size w wr) := ⟨Holds2_of_block (hBr.block b hb2) HW.out.1, by omega, BW.out.trans (hBr.mono (by omega))⟩
      have hC := hB.out wr g kc hg2 hks' (HN.out.keep HY.out.2.2)
      rw [E.out] at hC
      obtain ⟨p10, r10, p11, r11, p12, r12⟩ := FW.out
      have p10 := (hBr.cell (p := ⟨w.heap.size + 1, 0, none⟩) (by dsimp only; omega)).trans p10
      have r10 := (hBr.frozen (p := ⟨w.heap.size + 1, 0, none⟩) (by dsimp only; omega)).trans r10
      have p11 := (hBr.cell (p := ⟨w.heap.size + 1 + 1, 0, none⟩) (by dsimp only; omega)).trans p11
      have r11 := (hBr.frozen (p := ⟨w.heap.size + 1 + 1, 0, none⟩) (by dsimp only; omega)).trans r11
      have p12 := (hBr.cell (p := ⟨w.heap.size + 1 + 1 + 1, 0, none⟩) (by dsimp only; omega)).trans p12
      have r12 := (hBr.frozen (p := ⟨w.heap.size + 1 + 1 + 1, 0, none⟩) (by dsimp only; omega)).trans r12
      clear hO hBr hnn HO eL hks hks' hB HW BW FW OW q10
      go_wp2_with fail
      refine hC.mono ?_
      rintro e W2 ⟨_, rfl, S2, rn, rcap, rfl, hrn, hrb⟩
      have g2 := S2.grown
      have sz2 := g2.size
      have s10 := (kept_cell g2 (p := ⟨w.heap.size + 1, 0, none⟩) (by dsimp only; omega) (by simp; omega)).trans p10
      have t10 := (kept_frozen g2 (p := ⟨w.heap.size + 1, 0, none⟩) (by dsimp only; omega) (by simp; omega)).trans r10
      have s11 := (kept_cell g2 (p := ⟨w.heap.size + 1 + 1, 0, none⟩) (by dsimp only; omega) (by simp; omega)).trans p11
      have t11 := (kept_frozen g2 (p := ⟨w.heap.size + 1 + 1, 0, none⟩) (by dsimp only; omega) (by simp; omega)).trans r11
      have s12 := (kept_cell g2 (p := ⟨w.heap.size + 1 + 1 + 1, 0, none⟩) (by dsimp only; omega) (by simp; omega)).trans p12
      have t12 := (kept_frozen g2 (p := ⟨w.heap.size + 1 + 1 + 1, 0, none⟩) (by dsimp only; omega) (by simp; omega)).trans r12
      have B2 : Aside (Below w.heap.size w W2) := below_grownBy HY.out.2.2 g2 (by omega) (by omega)
      have N2 : Aside (RdN W2 rn nums ∧ (∀ blk off, rn = some ⟨blk, off, none⟩ → 0 < nums.size → wr.heap.size ≤ blk) ∧ Holds2 W2 b 0 (bare ks) ∧ Holds e64 W2 g 0 ks' ∧ g < W2.heap.size) := ⟨hrn, hrb, Holds2_of_block (g2.block b (by omega) (by simp; omega)) HY.out.1, S2.holds, S2.lt⟩
      clear S2 hrn hrb g2 p10 r10 p11 r11 p12 r12 hC HY HN
      go_upto_region 24 with fail
      obtain ⟨V, hV⟩ : ∃ V, V = W2.setCell ⟨w.heap.size + 1 + 1, 0, none⟩ (.slice rn nums.size rcap) := ⟨_, rfl⟩
      rw [← hV]
      have hblk : ∀ k, k ≠ w.heap.size + 1 + 1 → V.heap[k]? = W2.heap[k]? := fun k h => by rw [hV]; exact Below.heap_setCell _ _ _ _ h
      have szV : V.heap.size = W2.heap.size := by rw [hV]; simp
      have FV : Aside (V.cell? ⟨w.heap.size + 1, 0, none⟩ = some (.slice (some ⟨b, 0, none⟩) i c2) ∧ V.frozen? ⟨w.heap.size + 1, 0, none⟩ = false ∧ V.cell? ⟨w.heap.size + 1 + 1, 0, none⟩ = some (.slice rn nums.size rcap) ∧ V.frozen? ⟨w.heap.size + 1 + 1, 0, none⟩ = false ∧ V.cell? ⟨w.heap.size + 1 + 1 + 1, 0, none⟩ = some (.bool false) ∧ V.frozen? ⟨w.heap.size + 1 + 1 + 1, 0, none⟩ = false) :=
        ⟨(World.cell?_of_block (hblk _ (by dsimp only; omega))).trans s10, (World.frozen?_of_block (hblk _ (by dsimp only; omega))).trans t10, by rw [hV]; exact World.cell?_setCell_same _ _ _ s11, by rw [hV, World.frozen?_setCell]; exact t11, (World.cell?_of_block (hblk _ (by dsimp only; omega))).trans s12, (World.frozen?_of_block (hblk _ (by dsimp only; omega))).trans t12⟩
      have BV : Aside (Below w.heap.size w V) := by show Below _ _ _; rw [hV]; exact B2.out.setCell (by dsimp only; omega) _
      have NV : Aside (RdN V rn nums ∧ (∀ blk off, rn = some ⟨blk, off, none⟩ → 0 < nums.size → w.heap.size + 4 ≤ blk ∧ blk ≠ b) ∧ Holds2 V b 0 (bare ks) ∧ Holds e64 V g 0 ks') := by
        obtain ⟨n1, n2, n3, n4, n5⟩ := N2.out
        refine ⟨fun h0 => ?_, fun blk off e h0 => by have := n2 blk off e h0; exact ⟨by omega, by omega⟩, Holds2_of_block (hblk b (by omega)) n3, fun j hj => ⟨(World.cell?_of_block (hblk g (by omega))).trans (n4 j hj).1, (World.frozen?_of_block (hblk g (by omega))).trans (n4 j hj).2⟩⟩
        obtain ⟨blk, off, e, hl, hc⟩ := n1 h0
        have := n2 blk off e h0
        exact ⟨blk, off, e, by omega, fun i hi => (World.cell?_of_block (hblk blk (by omega))).trans (hc i hi)⟩
      have hbg : b ≠ g := by omega
      have hgV : g < V.heap.size := by have := N2.out.2.2.2.2; omega
      clear s10 t10 s11 t11 s12 t12 N2 B2 hV hblk
      go_wp2_with fail
      go_loopg [16, 17, 70] i (fun gg _ _ vi wy => ∃ (j : Nat) (dj : Array It), vi = .int .i64 j ∧ j ≤ i ∧ i - j ≤ gg ∧ Aside (dj.size = i ∧ Holds2 wy b 0 dj ∧ (∀ k, k < j → dj[k]! = (ks'[k]!, 0)) ∧ (∀ k, j ≤ k → k < i → dj[k]!.2 = 0) ∧ V.grownBy wy (some b)))
      case atStart => exact ⟨0, bare ks, rfl, Nat.zero_le _, by omega, by rw [bare_size]; exact E.out, NV.out.2.2.1, fun k hk => absurd hk (by omega), fun k _ hk => by rw [bare_get _ _ (by rw [E.out]; exact hk)], World.grownBy.refl _ _⟩
      case round =>
        obtain ⟨j, dj, rfl, hji, hgj, HO⟩ := hrel
        by_cases hlj : j < i
        · have hljz : (j : Int) < (i : Int) := by omega
          obtain ⟨hds, hdh, hd1, hd2, hdg⟩ := HO.out
          obtain ⟨x, hx⟩ : ∃ x, x = ks'[j]! := ⟨_, rfl⟩
          have hszy := hdg.size
          have q10 := (kept_cell hdg (p := ⟨w.heap.size + 1, 0, none⟩) (by dsimp only; omega) (by simp; omega)).trans FV.out.1
          have qk := (kept_cell hdg (p := ⟨g, 0 + j, none⟩) hgV (by simp; omega)).trans (NV.out.2.2.2 j (by rw [D.out, E.out]; exact hlj)).1
          rw [Nat.zero_add, ← hx] at qk
          have hh := hdh j (by omega)
          have qd := hh.1
          have fd := hh.2.2.1
          rw [Nat.zero_add] at qd fd
          simp only [e64] at qk
          have NX : Aside ((dj.set! j (x, dj[j]!.2)).size = i ∧ Holds2 (wr.setCell ⟨b, j * 2, none⟩ (.int .i64 x)) b 0 (dj.set! j (x, dj[j]!.2)) ∧ (∀ k, k < j + 1 → (dj.set! j (x, dj[j]!.2))[k]! = (ks'[k]!, 0)) ∧ (∀ k, j + 1 ≤ k → k < i → (dj.set! j (x, dj[j]!.2))[k]!.2 = 0) ∧ V.grownBy (wr.setCell ⟨b, j * 2, none⟩ (.int .i64 x)) (some b)) := by
            have hset : ∀ k, k < i → (dj.set! j (x, dj[j]!.2))[k]! = if k = j then (x, dj[j]!.2) else dj[k]! := fun k hk => by
              rw [Array.set!_eq_setIfInBounds, getElem!_pos (dj.setIfInBounds _ _) k (by simpa using (by omega : k < dj.size))]
              by_cases e : k = j
              · subst e; rw [if_pos rfl, Array.getElem_setIfInBounds_self]
              · rw [if_neg e, Array.getElem_setIfInBounds_ne _ (by omega), getElem!_pos dj k (by omega)]
            refine ⟨by simpa using hds, by have := holds2_setKey (x := x) hdh (i := j) (by omega); rwa [Nat.zero_add] at this, fun k hk => ?_, fun k h1 h2 => ?_, Go.Lib.grownBy_setB hdg _ _⟩
            · rw [hset k (by omega)]
              by_cases e : k = j
              · subst e; rw [if_pos rfl, hd2 k (Nat.le_refl _) hlj, hx]
              · rw [if_neg e]; exact hd1 k (by omega)
            · rw [hset k h2, if_neg (by omega)]; exact hd2 k (by omega) h2
          clear hds hdh hd1 hd2 hdg HO hh hx
          go_wp2_with fail
          go_roundg (i - (j + 1))
          case measure => omega
          case rel => exact ⟨j + 1, _, by go_num, by omega, by omega, NX⟩
        · have hljz : ¬ (j : Int) < (i : Int) := by omega
          have e0 : j = i := by omega
          subst e0
          obtain ⟨hds, hdh, hd1, _, hdg⟩ := HO.out
          have hfin : dj = bare ks' := by
            refine Array.ext (by rw [hds, bare_size, D.out, E.out]) (fun k h1 h2 => ?_)
            have hk : k < j := by omega
            have := hd1 k hk
            rw [getElem!_pos dj k h1] at this
            rw [this, ← bare_get ks' k (by rw [D.out, E.out]; exact hk), getElem!_pos (bare ks') k h2]
          rw [hfin] at hdh
          have hszy := hdg.size
          obtain ⟨u10, v10, u11, v11, u12, v12⟩ := FV.out
          replace u10 := (kept_cell hdg (p := ⟨w.heap.size + 1, 0, none⟩) (by dsimp only; omega) (by simp; omega)).trans u10
          replace v10 := (kept_frozen hdg (p := ⟨w.heap.size + 1, 0, none⟩) (by dsimp only; omega) (by simp; omega)).trans v10
          replace u11 := (kept_cell hdg (p := ⟨w.heap.size + 1 + 1, 0, none⟩) (by dsimp only; omega) (by simp; omega)).trans u11
          replace v11 := (kept_frozen hdg (p := ⟨w.heap.size + 1 + 1, 0, none⟩) (by dsimp only; omega) (by simp; omega)).trans v11
          replace u12 := (kept_cell hdg (p := ⟨w.heap.size + 1 + 1 + 1, 0, none⟩) (by dsimp only; omega) (by simp; omega)).trans u12
          replace v12 := (kept_frozen hdg (p := ⟨w.heap.size + 1 + 1 + 1, 0, none⟩) (by dsimp only; omega) (by simp; omega)).trans v12
          have BU : Aside (Below w.heap.size w wr) := below_grownBy BV.out hdg (by omega) (by omega)
          have NU : Aside (RdN wr rn nums ∧ (∀ blk off, rn = some ⟨blk, off, none⟩ → 0 < nums.size → w.heap.size + 4 ≤ blk) ∧ Holds2 wr b 0 (bare ks') ∧ b < wr.heap.size) := by
            obtain ⟨n1, n2, _, _⟩ := NV.out
            refine ⟨fun h0 => ?_, fun blk off e h0 => (n2 blk off e h0).1, hdh, by omega⟩
            obtain ⟨blk, off, e, hl, hc⟩ := n1 h0
            have := n2 blk off e h0
            exact ⟨blk, off, e, by omega, fun i hi => (kept_cell hdg (p := ⟨blk, off + i, none⟩) hl (by simp; omega)).trans (hc i hi)⟩
          clear hds hdh hd1 hdg HO NV BV FV hfin
          go_wp2_with fail
          go_region
          obtain ⟨X, hX⟩ : ∃ X, X = (((wr.setCell ⟨w.heap.size + 1, 0, none⟩ (.slice (some ⟨b, 0, none⟩) j c2)).setCell ⟨w.heap.size + 1 + 1, 0, none⟩ (.slice rn nums.size rcap)).setCell ⟨w.heap.size + 1 + 1 + 1, 0, none⟩ (.bool true)).drew := ⟨_, rfl⟩
          rw [← hX]
          have hblk : ∀ k, k ≠ w.heap.size + 1 → k ≠ w.heap.size + 1 + 1 → k ≠ w.heap.size + 1 + 1 + 1 → X.heap[k]? = wr.heap[k]? := fun k h1 h2 h3 => by
            rw [hX]
            exact (Below.heap_setCell _ _ _ _ h3).trans ((Below.heap_setCell _ _ _ _ h2).trans (Below.heap_setCell _ _ _ _ h1))
          have x10 : X.cell? ⟨w.heap.size + 1, 0, none⟩ = some (.slice (some ⟨b, 0, none⟩) j c2) := by
            rw [hX]
            refine Eq.trans (World.cell?_of_block (Below.heap_setCell _ _ _ _ (by dsimp only; omega))) (Eq.trans (World.cell?_of_block (Below.heap_setCell _ _ _ _ (by dsimp only; omega))) (World.cell?_setCell_same _ _ _ u10))
          have x11 : X.cell? ⟨w.heap.size + 1 + 1, 0, none⟩ = some (.slice rn nums.size rcap) := by
            rw [hX]
            refine Eq.trans (World.cell?_of_block (Below.heap_setCell _ _ _ _ (by dsimp only; omega))) (World.cell?_setCell_same _ _ (.slice rn nums.size rcap) (u := .slice rn nums.size rcap) ?_)
            exact Eq.trans (World.cell?_of_block (Below.heap_setCell _ _ _ _ (by dsimp only; omega))) u11
          have x12 : X.cell? ⟨w.heap.size + 1 + 1 + 1, 0, none⟩ = some (.bool true) := by
            rw [hX]
            refine World.cell?_setCell_same _ _ _ (u := .bool false) ?_
            exact Eq.trans (World.cell?_of_block (Below.heap_setCell _ _ _ _ (by dsimp only; omega))) (Eq.trans (World.cell?_of_block (Below.heap_setCell _ _ _ _ (by dsimp only; omega))) u12)
          have szX2 : X.heap.size = wr.heap.size := by rw [hX]; simp
          have BX : Aside (Below w.heap.size w X) := by show Below _ _ _; rw [hX]; exact (((BU.out.setCell (by dsimp only; omega) _).setCell (by dsimp only; omega) _).setCell (by dsimp only; omega) _).drew
          have NX : Aside (RdN X rn nums ∧ Holds2 X b 0 (bare ks') ∧ b < X.heap.size) := by
            show _ ∧ _ ∧ _
            obtain ⟨n1, n2, n3, n4⟩ := NU.out
            refine ⟨fun h0 => ?_, Holds2_of_block (hblk b (by omega) (by omega) (by omega)) n3, by omega⟩
            obtain ⟨blk, off, e, hl, hc⟩ := n1 h0
            have := n2 blk off e h0
            exact ⟨blk, off, e, by omega, fun i hi => (World.cell?_of_block (hblk blk (by omega) (by omega) (by omega))).trans (hc i hi)⟩
          clear u10 v10 u11 v11 u12 v12 NU BU hX hblk
          go_wp2_with fail
          refine leaves_cons (f := 39) (args := #[.pointer (some ⟨w.heap.size + 1 + 1 + 1, 0, none⟩)]) (by simp) (by simp [go_sem]) ?_
          refine (guarded_idle _ _).mono ?_
          rintro e u' w'' ⟨rfl, rfl, rfl⟩
          refine leaves_cons (f := 38) (args := #[.pointer (some ⟨w.heap.size + 1 + 1 + 1, 0, none⟩), .pointer (some ⟨w.heap.size + 1, 0, none⟩), .pointer (some ⟨w.heap.size + 1 + 1, 0, none⟩)]) (by simp [settle]) (by simp [go_sem]) ?_
          refine (inner1_idle _ _ _ _ _ x12).mono ?_
          rintro e u' w'' ⟨rfl, rfl, rfl⟩
          simp [Leaves, settle, results, Tryz.results28, go_sem, x10, x11, x12]
          obtain ⟨n1, n2, n3⟩ := NX.out
          have hd : (bare ks').size = j := by rw [bare_size, D.out, E.out]
          exact ⟨b, c2, rn, rcap, by rw [hd], by omega, n3, by rw [hd]; exact hcap, n2, n1, BX.out⟩
end Go.Proofs.YtglgmkikegbchaaGreat
