/- impl.Inner, by a function that compares. -/
import Derived.Test.YtglgmkikegbchaaGreatzText
import Derived.Test.YtglgmkikegbchaaGreatWhole0
namespace Go.Proofs.YtglgmkikegbchaaGreat
open Go.RowKit Go.Sort

/-- Numbers that were told: in memory that is new since W. -/
def NumsAt (W W' : World) (nv : Value) (nums : Array Int) : Prop := ∃ na cap, nv = .slice na nums.size cap ∧ RdN W' na nums ∧ ∀ blk off, na = some ⟨blk, off, none⟩ → 0 < nums.size → W.heap.size ≤ blk

/-- What Inner gives. -/
def InnerTo (w : World) (d' : Array It) (nums : Array Int) (e : Ending) (w' : World) : Prop := ∃ b cap na ncap, e = .returned (.tuple #[.slice (some ⟨b, 0, none⟩) d'.size cap, .slice na nums.size ncap, .bool true]) ∧
  w.heap.size ≤ b ∧ b < w'.heap.size ∧ d'.size ≤ cap ∧ Holds2 w' b 0 d' ∧ RdN w' na nums ∧ Below w.heap.size w w'

theorem inner1_idle (p q r : Addr) (w : World) (u : FrameMode) (h : w.cell? p = some (.bool true)) :
    CallsD Tryz.prog 38 #[.pointer (some p), .pointer (some q), .pointer (some r)] u w fun e u' w' => e = .returned (.tuple #[]) ∧ u' = u ∧ w' = w := by
  have : CallsD Tryz.prog 38 #[.pointer (some p), .pointer (some q), .pointer (some r)] u w fun e u' w' => u' = u ∧ (e = .returned (.tuple #[]) ∧ w' = w) := by
    go_enter_d Tryz.func38, Tryz.ntmps38
    go_wp2_with fail
    go_end0
    exact ⟨rfl, rfl⟩
  exact this.mono fun e u' w' ⟨h1, h2, h3⟩ => ⟨h2, h1, h3⟩

theorem boxes4 {w w1 : World} {c0 : Array Value} {t0 t1 t2 t3 : TypeId} {v1 v2 v3 : Value} (hbel : Below (w.heap.size + 1 + 1 + 1 + 1) ((((w.alloc (.cells c0 t0)).alloc (.cells #[v1] t1)).alloc (.cells #[v2] t2)).alloc (.cells #[v3] t3)) w1) :
    w1.heap[w.heap.size]? = some (.cells c0 t0 (0, 0)) ∧ w1.heap[w.heap.size + 1]? = some (.cells #[v1] t1 (0, 0)) ∧ w1.heap[w.heap.size + 1 + 1]? = some (.cells #[v2] t2 (0, 0)) ∧ w1.heap[w.heap.size + 1 + 1 + 1]? = some (.cells #[v3] t3 (0, 0)) := by
  refine ⟨?_, ?_, ?_, ?_⟩
  · rw [hbel.block _ (by omega)]; show ((((w.heap.push _).push _).push _).push _)[_]? = _; simp only [Array.getElem?_push, Array.size_push]; repeat (first | rw [if_pos trivial] | rw [if_pos rfl] | rw [if_neg (by omega)])
  · rw [hbel.block _ (by omega)]; show ((((w.heap.push _).push _).push _).push _)[_]? = _; simp only [Array.getElem?_push, Array.size_push]; repeat (first | rw [if_pos trivial] | rw [if_pos rfl] | rw [if_neg (by omega)])
  · rw [hbel.block _ (by omega)]; show ((((w.heap.push _).push _).push _).push _)[_]? = _; simp only [Array.getElem?_push, Array.size_push]; repeat (first | rw [if_pos trivial] | rw [if_pos rfl] | rw [if_neg (by omega)])
  · rw [hbel.block _ (by omega)]; show ((((w.heap.push _).push _).push _).push _)[_]? = _; simp only [Array.getElem?_push, Array.size_push]; repeat (first | rw [if_pos trivial] | rw [if_pos rfl] | rw [if_neg (by omega)])
theorem cell_at {w : World} {b i : Nat} {c : Array Value} {t : TypeId} {v : Value} (h : w.heap[b]? = some (.cells c t (0, 0))) (hv : c[i]? = some v) : w.cell? ⟨b, i, none⟩ = some v := by simp [World.cell?, h, hv]
theorem frozen_at {w : World} {b i : Nat} {c : Array Value} {t : TypeId} (h : w.heap[b]? = some (.cells c t (0, 0))) : w.frozen? ⟨b, i, none⟩ = false := by simp [World.frozen?, h]

theorem holds2_below {w w' : World} {b : Nat} {d : Array It} (h : Holds2 w b 0 d) (hb : w'.heap[b]? = w.heap[b]?) : Holds2 w' b 0 d := Holds2_of_block hb h

set_option maxHeartbeats 2000000 in
set_option maxRecDepth 1000000 in
theorem inner_c (f : Int) (a : Option Addr) (cap : Nat) (d d' : Array It) (o : Ordr) (na : Option Addr) (n ncap : Nat) (ns nums : Array Int) (w : World) (h : Rd2 w a d) (hN : RdN w na ns) (hsz : d.size ≤ 2000) (hd : d'.size = d.size)
    (hm : ∀ W, Calls Tryz.prog 40 #[.int .i64 f] W fun e w' => e = .returned (.int .i64 n) ∧ w' = W)
    (HB : ∀ (W : World) (b cap' : Nat), b < W.heap.size → Holds2 W b 0 d → RdN W na ns → Calls Tryz.prog 42 #[.int .i64 f, .slice (some ⟨b, 0, none⟩) d.size cap', .func (.func 43) #[vOrd o] #[], .slice na n ncap] W fun e W' => ∃ nv, e = .returned nv ∧ St2 W b 0 d' W' ∧ NumsAt W W' nv nums) :
    Calls Tryz.prog 28 #[.int .i64 0, .int .i64 f, .slice a d.size cap, vOrd o, .slice na n ncap] w (InnerTo w d' nums) := by
  have H : Aside (Rd2 w a d ∧ RdN w na ns) := ⟨h, hN⟩
  have hB : Aside (∀ (W : World) (b cap' : Nat), b < W.heap.size → Holds2 W b 0 d → RdN W na ns → Calls Tryz.prog 42 #[.int .i64 f, .slice (some ⟨b, 0, none⟩) d.size cap', .func (.func 43) #[vOrd o] #[], .slice na n ncap] W fun e W' => ∃ nv, e = .returned nv ∧ St2 W b 0 d' W' ∧ NumsAt W W' nv nums) := HB
  have D : Aside (d'.size = d.size) := hd
  clear h hN HB hd
  obtain ⟨k, s, m0, m1, m2⟩ := o
  have hmf : ∀ (fn : Fn) (first cap : Array Value) (w : World), (Instr.makeFunc fn first cap).run Tryz.prog w = .ok (.func fn first cap) w := fun _ _ _ _ => rfl
  go_enter_defers Tryz.func28, Tryz.ntmps28
  go_wp2_with fail
  refine (hm _).mono ?_
  rintro e W0 ⟨rfl, rfl⟩
  go_wp2_with fail
  have BX : Below w.heap.size w ((((w.alloc (.cells #[.int .i64 k, .int .i64 s, .int .u64 m0, .int .u64 m1, .int .u64 m2] 26)).alloc (.cells #[.slice none 0 0] 22)).alloc (.cells #[.slice none 0 0] 29)).alloc (.cells #[.bool false] 4)) :=
    Below.next (Below.next (Below.next (below_alloc _ _) (below_alloc _ _)) (below_alloc _ _)) (below_alloc _ _)
  refine (copied_calls a cap d _ (H.out.1.keep BX) hsz).mono ?_
  rintro e w1 ⟨v, rfl, b, c2, rfl, hb1, hb2, hcap, hH, hbel⟩
  simp only [World.size_alloc] at hb1 hbel
  have hsz1 : w.heap.size + 4 ≤ w1.heap.size := by have := hbel.size; simpa using this
  obtain ⟨hb0, hb10, hb11, hb12⟩ := boxes4 hbel
  have k0 := cell_at (i := 0) hb0 rfl
  have k1 := cell_at (i := 1) hb0 rfl
  have k2 := cell_at (i := 2) hb0 rfl
  have k3 := cell_at (i := 3) hb0 rfl
  have k4 := cell_at (i := 4) hb0 rfl
  have c10 := cell_at (i := 0) hb10 rfl
  have f10 := frozen_at (i := 0) hb10
  have c11 := cell_at (i := 0) hb11 rfl
  have f11 := frozen_at (i := 0) hb11
  have c12 := cell_at (i := 0) hb12 rfl
  have f12 := frozen_at (i := 0) hb12
  clear hb0 hb10 hb11 hb12
  have B1 : Aside (Below w.heap.size w w1) := BX.trans (hbel.mono (by omega))
  obtain ⟨W, hW⟩ : ∃ W, W = w1.setCell ⟨w.heap.size + 1, 0, none⟩ (.slice (some ⟨b, 0, none⟩) d.size c2) := ⟨_, rfl⟩
  have szW : W.heap.size = w1.heap.size := by rw [hW]; simp
  have HW : Holds2 W b 0 d := by rw [hW]; exact Holds2_of_block (Below.heap_setCell _ _ _ _ (by dsimp only; omega)) hH
  have BW : Aside (Below w.heap.size w W) := by show Below _ _ _; rw [hW]; exact B1.out.setCell (by dsimp only; omega) _
  have hC := hB.out W b c2 (by omega) HW (H.out.2.keep BW.out)
  have d10 : W.cell? ⟨w.heap.size + 1, 0, none⟩ = some (.slice (some ⟨b, 0, none⟩) d.size c2) := by rw [hW]; exact World.cell?_setCell_same _ _ _ c10
  have e10 : W.frozen? ⟨w.heap.size + 1, 0, none⟩ = false := by rw [hW, World.frozen?_setCell]; exact f10
  have d11 : W.cell? ⟨w.heap.size + 1 + 1, 0, none⟩ = some (.slice none 0 0) := by rw [hW, World.cell?_of_block (Below.heap_setCell _ _ _ _ (by dsimp only; omega))]; exact c11
  have e11 : W.frozen? ⟨w.heap.size + 1 + 1, 0, none⟩ = false := by rw [hW, World.frozen?_of_block (Below.heap_setCell _ _ _ _ (by dsimp only; omega))]; exact f11
  have d12 : W.cell? ⟨w.heap.size + 1 + 1 + 1, 0, none⟩ = some (.bool false) := by rw [hW, World.cell?_of_block (Below.heap_setCell _ _ _ _ (by dsimp only; omega))]; exact c12
  have e12 : W.frozen? ⟨w.heap.size + 1 + 1 + 1, 0, none⟩ = false := by rw [hW, World.frozen?_of_block (Below.heap_setCell _ _ _ _ (by dsimp only; omega))]; exact f12
  clear HW hH hbel BX B1 H hB
  rw [hW] at hC
  go_wp2_with fail
  refine hC.mono ?_
  rintro e W2 ⟨_, rfl, S2, rn, rcap, rfl, hrn, hrb⟩
  rw [← hW] at S2 hrb
  have g2 := S2.grown
  have sz2 := g2.size
  have p10 := (kept_cell g2 (p := ⟨w.heap.size + 1, 0, none⟩) (by dsimp only; omega) (by simp; omega)).trans d10
  have r10 := (kept_frozen g2 (p := ⟨w.heap.size + 1, 0, none⟩) (by dsimp only; omega) (by simp; omega)).trans e10
  have p11 := (kept_cell g2 (p := ⟨w.heap.size + 1 + 1, 0, none⟩) (by dsimp only; omega) (by simp; omega)).trans d11
  have r11 := (kept_frozen g2 (p := ⟨w.heap.size + 1 + 1, 0, none⟩) (by dsimp only; omega) (by simp; omega)).trans e11
  have p12 := (kept_cell g2 (p := ⟨w.heap.size + 1 + 1 + 1, 0, none⟩) (by dsimp only; omega) (by simp; omega)).trans d12
  have r12 := (kept_frozen g2 (p := ⟨w.heap.size + 1 + 1 + 1, 0, none⟩) (by dsimp only; omega) (by simp; omega)).trans e12
  have B2 : Aside (Below w.heap.size w W2) := below_grownBy BW.out g2 (by omega) (by omega)
  have N2 : Aside (RdN W2 rn nums ∧ (∀ blk off, rn = some ⟨blk, off, none⟩ → 0 < nums.size → W.heap.size ≤ blk) ∧ Holds2 W2 b 0 d' ∧ b < W2.heap.size ∧ w.heap.size + 4 ≤ W.heap.size) := ⟨hrn, hrb, S2.holds, S2.lt, by omega⟩
  clear S2 hrn hrb g2 d10 e10 d11 e11 d12 e12 c10 f10 c11 f11 c12 f12 k0 k1 k2 k3 k4 hC hW BW
  go_wp2_with fail
  obtain ⟨V, hV⟩ : ∃ V, V = W2.setCell ⟨w.heap.size + 1 + 1, 0, none⟩ (.slice rn nums.size rcap) := ⟨_, rfl⟩
  rw [← hV]
  have q10 : V.cell? ⟨w.heap.size + 1, 0, none⟩ = some (.slice (some ⟨b, 0, none⟩) d.size c2) := by rw [hV, World.cell?_of_block (Below.heap_setCell _ _ _ _ (by dsimp only; omega))]; exact p10
  have s10 : V.frozen? ⟨w.heap.size + 1, 0, none⟩ = false := by rw [hV, World.frozen?_setCell]; exact r10
  have q11 : V.cell? ⟨w.heap.size + 1 + 1, 0, none⟩ = some (.slice rn nums.size rcap) := by rw [hV]; exact World.cell?_setCell_same _ _ _ p11
  have s11 : V.frozen? ⟨w.heap.size + 1 + 1, 0, none⟩ = false := by rw [hV, World.frozen?_setCell]; exact r11
  have q12 : V.cell? ⟨w.heap.size + 1 + 1 + 1, 0, none⟩ = some (.bool false) := by rw [hV, World.cell?_of_block (Below.heap_setCell _ _ _ _ (by dsimp only; omega))]; exact p12
  have s12 : V.frozen? ⟨w.heap.size + 1 + 1 + 1, 0, none⟩ = false := by rw [hV, World.frozen?_setCell]; exact r12
  have szV : V.heap.size = W2.heap.size := by rw [hV]; simp
  have BV : Aside (Below w.heap.size w V) := by show Below _ _ _; rw [hV]; exact B2.out.setCell (by dsimp only; omega) _
  have NV : Aside (RdN V rn nums ∧ (∀ blk off, rn = some ⟨blk, off, none⟩ → 0 < nums.size → w.heap.size + 4 ≤ blk) ∧ Holds2 V b 0 d' ∧ b < V.heap.size) := by
    show _ ∧ _ ∧ _ ∧ _
    obtain ⟨n1, n2, n3, n4, n5⟩ := N2.out
    refine ⟨fun h0 => ?_, fun blk off e h0 => by have := n2 blk off e h0; omega, by rw [hV]; exact Holds2_of_block (Below.heap_setCell _ _ _ _ (by dsimp only; omega)) n3, by omega⟩
    obtain ⟨blk, off, e, hl, hc⟩ := n1 h0
    have := n2 blk off e h0
    exact ⟨blk, off, e, by omega, fun i hi => by rw [hV, World.cell?_of_block (Below.heap_setCell _ _ _ _ (by dsimp only; omega))]; exact hc i hi⟩
  clear p10 r10 p11 r11 p12 r12 N2 B2 hV
  go_region
  obtain ⟨X, hX⟩ : ∃ X, X = (((V.setCell ⟨w.heap.size + 1, 0, none⟩ (.slice (some ⟨b, 0, none⟩) d.size c2)).setCell ⟨w.heap.size + 1 + 1, 0, none⟩ (.slice rn nums.size rcap)).setCell ⟨w.heap.size + 1 + 1 + 1, 0, none⟩ (.bool true)).drew := ⟨_, rfl⟩
  rw [← hX]
  have hblk : ∀ k, k ≠ w.heap.size + 1 → k ≠ w.heap.size + 1 + 1 → k ≠ w.heap.size + 1 + 1 + 1 → X.heap[k]? = V.heap[k]? := fun k h1 h2 h3 => by
    rw [hX]
    exact (Below.heap_setCell _ _ _ _ h3).trans ((Below.heap_setCell _ _ _ _ h2).trans (Below.heap_setCell _ _ _ _ h1))
  have x10 : X.cell? ⟨w.heap.size + 1, 0, none⟩ = some (.slice (some ⟨b, 0, none⟩) d.size c2) := by
    rw [hX]
    refine Eq.trans (World.cell?_of_block (Below.heap_setCell _ _ _ _ (by dsimp only; omega))) (Eq.trans (World.cell?_of_block (Below.heap_setCell _ _ _ _ (by dsimp only; omega))) (World.cell?_setCell_same _ _ _ q10))
  have x11 : X.cell? ⟨w.heap.size + 1 + 1, 0, none⟩ = some (.slice rn nums.size rcap) := by
    rw [hX]
    refine Eq.trans (World.cell?_of_block (Below.heap_setCell _ _ _ _ (by dsimp only; omega))) (World.cell?_setCell_same _ _ (.slice rn nums.size rcap) (u := .slice rn nums.size rcap) ?_)
    exact Eq.trans (World.cell?_of_block (Below.heap_setCell _ _ _ _ (by dsimp only; omega))) q11
  have x12 : X.cell? ⟨w.heap.size + 1 + 1 + 1, 0, none⟩ = some (.bool true) := by
    rw [hX]
    refine World.cell?_setCell_same _ _ _ (u := .bool false) ?_
    exact Eq.trans (World.cell?_of_block (Below.heap_setCell _ _ _ _ (by dsimp only; omega))) (Eq.trans (World.cell?_of_block (Below.heap_setCell _ _ _ _ (by dsimp only; omega))) q12)
  have szX : X.heap.size = V.heap.size := by rw [hX]; simp
  have BX : Aside (Below w.heap.size w X) := by show Below _ _ _; rw [hX]; exact (((BV.out.setCell (by dsimp only; omega) _).setCell (by dsimp only; omega) _).setCell (by dsimp only; omega) _).drew
  have NX : Aside (RdN X rn nums ∧ Holds2 X b 0 d' ∧ b < X.heap.size) := by
    show _ ∧ _ ∧ _
    obtain ⟨n1, n2, n3, n4⟩ := NV.out
    refine ⟨fun h0 => ?_, Holds2_of_block (hblk b (by omega) (by omega) (by omega)) n3, by omega⟩
    obtain ⟨blk, off, e, hl, hc⟩ := n1 h0
    have := n2 blk off e h0
    exact ⟨blk, off, e, by omega, fun i hi => (World.cell?_of_block (hblk blk (by omega) (by omega) (by omega))).trans (hc i hi)⟩
  clear q10 s10 q11 s11 q12 s12 NV BV hX hblk
  go_wp2_with fail
  refine leaves_cons (f := 39) (args := #[.pointer (some ⟨w.heap.size + 1 + 1 + 1, 0, none⟩)]) (by simp) (by simp [go_sem]) ?_
  refine (guarded_idle _ _).mono ?_
  rintro e u' w'' ⟨rfl, rfl, rfl⟩
  refine leaves_cons (f := 38) (args := #[.pointer (some ⟨w.heap.size + 1 + 1 + 1, 0, none⟩), .pointer (some ⟨w.heap.size + 1, 0, none⟩), .pointer (some ⟨w.heap.size + 1 + 1, 0, none⟩)]) (by simp [settle]) (by simp [go_sem]) ?_
  refine (inner1_idle _ _ _ _ _ x12).mono ?_
  rintro e u' w'' ⟨rfl, rfl, rfl⟩
  simp [Leaves, settle, results, Tryz.results28, go_sem, x10, x11, x12]
  obtain ⟨n1, n2, n3⟩ := NX.out
  have hd := D.out
  exact ⟨b, c2, rn, rcap, by rw [hd], by omega, n3, by rw [hd]; exact hcap, n2, n1, BX.out⟩
end Go.Proofs.YtglgmkikegbchaaGreat
