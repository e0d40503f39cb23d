/- Two pointers, told apart or the same; the list's small methods. -/
import Derived.Test.YtglgmkikegbchaaaOwn
import Derived.Test.YtglgmkikegbchaaProg
import Derived.LaidEqlPtr
import Derived.WalkKit
import Derived.WalkSpells
namespace Go.Proofs.Ytglgmkikegbchaa
open Go.RowKit

section
variable {P : Program} (w : World)
theorem neq_same {tp te : TypeId} {j : TypeInfo} (a : Addr) (hp : P.underlying tp = some (.pointer te)) (hte : P.info? te = some j) :
    (binOp .neq tp (.pointer (some a)) (.pointer (some a))).run P w = .ok (.bool false) w := by
  have h : ∀ d : Nat, (Op.equalIn (d + 1) tp (.pointer (some a)) (.pointer (some a))).run P w = .ok true w := fun d => by
    simp [Op.equalIn, run_underlying hp, sizeOf, typeInfo, hte, run_sameAddr_same]
  simp only [binOp]
  simp [Op.equal, Op.maxDepth, h 9999]
theorem neq_other {tp te : TypeId} {j : TypeInfo} {a b : Addr} {ca cb : Array Value} {ta tb : TypeId} (hp : P.underlying tp = some (.pointer te)) (hte : P.info? te = some j) (hsz : j.size ≠ 0)
    (hne : a ≠ b) (ha : w.heap[a.block]? = some (.cells ca ta (0, 0))) (hb : w.heap[b.block]? = some (.cells cb tb (0, 0))) :
    (binOp .neq tp (.pointer (some a)) (.pointer (some b))).run P w = .ok (.bool true) w := by
  have h : ∀ d : Nat, (Op.equalIn (d + 1) tp (.pointer (some a)) (.pointer (some b))).run P w = .ok false w := fun d => by
    simp [Op.equalIn, run_underlying hp, sizeOf, typeInfo, hte, hsz, run_sameAddr_other w hne ha hb]
  simp only [binOp]
  simp [Op.equal, Op.maxDepth, h 9999]
theorem ptr_nil {tp te : TypeId} (a : Addr) (hp : P.underlying tp = some (.pointer te)) :
    (binOp .eql tp (.pointer (some a)) (.pointer none)).run P w = .ok (.bool false) w ∧ (binOp .neq tp (.pointer (some a)) (.pointer none)).run P w = .ok (.bool true) w ∧
    (binOp .eql tp (.pointer none) (.pointer (some a))).run P w = .ok (.bool false) w ∧ (binOp .neq tp (.pointer none) (.pointer (some a))).run P w = .ok (.bool true) w ∧ (binOp .eql tp (.pointer none) (.pointer none)).run P w = .ok (.bool true) w ∧ (binOp .neq tp (.pointer none) (.pointer none)).run P w = .ok (.bool false) w := by
  have h1 : ∀ d : Nat, (Op.equalIn (d + 1) tp (.pointer (some a)) (.pointer none)).run P w = .ok false w := fun d => by
    simp [Op.equalIn, run_underlying hp]
  have h2 : ∀ d : Nat, (Op.equalIn (d + 1) tp (.pointer none) (.pointer (some a))).run P w = .ok false w := fun d => by
    simp [Op.equalIn, run_underlying hp]
  have h3 : ∀ d : Nat, (Op.equalIn (d + 1) tp (.pointer none) (.pointer none)).run P w = .ok true w := fun d => by
    simp [Op.equalIn, run_underlying hp]
  simp only [binOp]
  refine ⟨?_, ?_, ?_, ?_, ?_, ?_⟩ <;> simp [Op.equal, Op.maxDepth, h1 9999, h2 9999, h3 9999]
end

/-- The types of the list's blocks. -/
def LT (t : TypeId) : Prop := t = 130 ∨ t = 108

theorem infoE : ∃ j, Try.prog.info? 108 = some j ∧ j.size ≠ 0 := by
  have h : (Try.prog.info? 108).map (fun i => i.size) = some 4 := by kernel_rfl
  obtain ⟨i, hi, hz⟩ := Option.map_eq_some_iff.1 h
  exact ⟨i, hi, by omega⟩
theorem infoL : ∃ j, Try.prog.info? 130 = some j ∧ j.size ≠ 0 := by
  have h : (Try.prog.info? 130).map (fun i => i.size) = some 5 := by kernel_rfl
  obtain ⟨i, hi, hz⟩ := Option.map_eq_some_iff.1 h
  exact ⟨i, hi, by omega⟩

variable (w : World)
theorem eqE_same (b : Nat) : (binOp .eql 100 (vP b) (vP b)).run Try.prog w = .ok (.bool true) w := by
  obtain ⟨j, hj, _⟩ := infoE
  exact run_eql_ptr_same w _ Try.underlying100 hj
theorem neE_same (b : Nat) : (binOp .neq 100 (vP b) (vP b)).run Try.prog w = .ok (.bool false) w := by
  obtain ⟨j, hj, _⟩ := infoE
  exact neq_same w _ Try.underlying100 hj
theorem neE_nil (b : Nat) : (binOp .neq 100 (vP b) (.pointer none)).run Try.prog w = .ok (.bool true) w := by
  exact (ptr_nil w _ Try.underlying100).2.1
theorem eqE_nil (b : Nat) : (binOp .eql 100 (vP b) (.pointer none)).run Try.prog w = .ok (.bool false) w := by
  exact (ptr_nil w _ Try.underlying100).1
theorem neN_nil : (binOp .neq 100 (.pointer none) (.pointer none)).run Try.prog w = .ok (.bool false) w := by
  exact (ptr_nil w ⟨0, 0, none⟩ Try.underlying100).2.2.2.2.2
theorem eqL_same (b : Nat) : (binOp .eql 97 (vP b) (vP b)).run Try.prog w = .ok (.bool true) w := by
  obtain ⟨j, hj, _⟩ := infoL
  exact run_eql_ptr_same w _ Try.underlying97 hj
theorem neL_same (b : Nat) : (binOp .neq 97 (vP b) (vP b)).run Try.prog w = .ok (.bool false) w := by
  obtain ⟨j, hj, _⟩ := infoL
  exact neq_same w _ Try.underlying97 hj
theorem neL_nil (b : Nat) : (binOp .neq 97 (vP b) (.pointer none)).run Try.prog w = .ok (.bool true) w := by
  exact (ptr_nil w _ Try.underlying97).2.1
theorem nilL_eq (b : Nat) : (binOp .eql 97 (.pointer none) (vP b)).run Try.prog w = .ok (.bool false) w := by
  exact (ptr_nil w _ Try.underlying97).2.2.1
theorem nilL_ne (b : Nat) : (binOp .neq 97 (.pointer none) (vP b)).run Try.prog w = .ok (.bool true) w := by
  exact (ptr_nil w _ Try.underlying97).2.2.2.1

variable {w} {S : TypeId → Prop} {n0 k k' a b : Nat}
theorem eqE_other (ha : Nd S n0 k w a) (hb : Nd S n0 k' w b) (hne : a ≠ b) : (binOp .eql 100 (vP a) (vP b)).run Try.prog w = .ok (.bool false) w := by
  obtain ⟨j, hj, hs⟩ := infoE
  obtain ⟨c1, t1, e1⟩ := ha.entry
  obtain ⟨c2, t2, e2⟩ := hb.entry
  exact run_eql_ptr_other w Try.underlying100 hj hs (fun h => hne (by cases h; rfl)) e1 e2
theorem neE_other (ha : Nd S n0 k w a) (hb : Nd S n0 k' w b) (hne : a ≠ b) : (binOp .neq 100 (vP a) (vP b)).run Try.prog w = .ok (.bool true) w := by
  obtain ⟨j, hj, hs⟩ := infoE
  obtain ⟨c1, t1, e1⟩ := ha.entry
  obtain ⟨c2, t2, e2⟩ := hb.entry
  exact neq_other w Try.underlying100 hj hs (fun h => hne (by cases h; rfl)) e1 e2
end Go.Proofs.Ytglgmkikegbchaa
