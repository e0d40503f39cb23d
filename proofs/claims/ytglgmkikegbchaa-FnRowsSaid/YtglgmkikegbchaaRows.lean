/-
  No cell of these rows narrows 'for every input' (looked for: loops, veiled, ifaces, maps, wideKeys, modest, calm, conditions, laid).
  DERIVED. THE GIVEN ROWS OF THIS SEAT. 8 by the template 'for every input the law returns true; each argument reads behind the call as it read before'; 0 by the template 'total and deterministic' (their statements: YtglgmkikegbchaaTotals.lean).
  GIVEN WITH THE SEED: the statements are not yours to turn. If you find one false, say at which input.
  Laid BY PROGRAM, IN A SANDBOX (cutbox-rows.mjs): the forced cells as the released guide's own fill.sh prints them over the translation 734ebe262fc9928f… (all of the seat's roots in one cut). By AI agents, Wed Nov 11 2026. No macro, syntax, notation, axiom, sorry.
-/
import Derived.Test.YtglgmkikegbchaaChecked
import GoSem.Claim
import GoSem.ClaimJoined
import GoSem.ClaimMapViews
import Derived.JoinedTies
import Derived.KernelRfl
namespace Go.Proofs.Ytglgmkikegbchaa
/- THE CELL 'sum', in the pinned program and in every row, IS THE sha256 OF THE DUMP (.gsa) THAT YtglgmkikegbchaaProg.lean LOADS. Nothing in Lean hashes anything: it is a label: what it is worth is what the hold of that sum in a sandbox is worth. -/
noncomputable def Try.pinned : Pinned := { name := "ytglgmkikegbchaa", sum := "734ebe262fc9928f1eac4f46db8fbbd228064b2cbb74a3ccda7ecdb4a0a983cb", checked := Try.checked }
namespace Rows
def none {H : Type} : Left H := { results := [], args := [] }

/-- 'laws.FnSorted': WHATEVER THE INPUT: true; the input reads as it did. -/
def fnSortedSpec : ChangeSpec := { name := "fnSorted", fn := fun _ => fun
  | [d1, d2, d3] => { results := [.lit (.bool true)], args := [d1, d2, d3] }
  | _ => none }
def fnSortedRow : OpenClaim := { program := "ytglgmkikegbchaa", sum := "734ebe262fc9928f1eac4f46db8fbbd228064b2cbb74a3ccda7ecdb4a0a983cb", func := "sortings/laws.FnSorted", spec := "fnSorted", unfollowed := true, recurses := true, plainKeys := false, apart := false }
def FnSortedSaid : Prop := fnSortedRow.holds Try.pinned (OpenSpec.ofChange fnSortedSpec)

/-- ITS FALSE NEIGHBOUR: 'it returns false'. Refute it at one input. -/
def fnSortedWrong : ChangeSpec := { name := "fnSorted", fn := fun _ => fun
  | [d1, d2, d3] => { results := [.lit (.bool false)], args := [d1, d2, d3] }
  | _ => none }
def FnSortedWrongFalsely : Prop := fnSortedRow.holds Try.pinned (OpenSpec.ofChange fnSortedWrong)

/-- 'laws.FnStable': WHATEVER THE INPUT: true; the input reads as it did. -/
def fnStableSpec : ChangeSpec := { name := "fnStable", fn := fun _ => fun
  | [d1, d2, d3] => { results := [.lit (.bool true)], args := [d1, d2, d3] }
  | _ => none }
def fnStableRow : OpenClaim := { program := "ytglgmkikegbchaa", sum := "734ebe262fc9928f1eac4f46db8fbbd228064b2cbb74a3ccda7ecdb4a0a983cb", func := "sortings/laws.FnStable", spec := "fnStable", unfollowed := true, recurses := true, plainKeys := false, apart := false }
def FnStableSaid : Prop := fnStableRow.holds Try.pinned (OpenSpec.ofChange fnStableSpec)

/-- ITS FALSE NEIGHBOUR: 'it returns false'. Refute it at one input. -/
def fnStableWrong : ChangeSpec := { name := "fnStable", fn := fun _ => fun
  | [d1, d2, d3] => { results := [.lit (.bool false)], args := [d1, d2, d3] }
  | _ => none }
def FnStableWrongFalsely : Prop := fnStableRow.holds Try.pinned (OpenSpec.ofChange fnStableWrong)

/-- 'laws.FnSearch': WHATEVER THE INPUT: true; the input reads as it did. -/
def fnSearchSpec : ChangeSpec := { name := "fnSearch", fn := fun _ => fun
  | [d] => { results := [.lit (.bool true)], args := [d] }
  | _ => none }
def fnSearchRow : OpenClaim := { program := "ytglgmkikegbchaa", sum := "734ebe262fc9928f1eac4f46db8fbbd228064b2cbb74a3ccda7ecdb4a0a983cb", func := "sortings/laws.FnSearch", spec := "fnSearch", unfollowed := true, recurses := true, plainKeys := false, apart := false }
def FnSearchSaid : Prop := fnSearchRow.holds Try.pinned (OpenSpec.ofChange fnSearchSpec)

/-- ITS FALSE NEIGHBOUR: 'it returns false'. Refute it at one input. -/
def fnSearchWrong : ChangeSpec := { name := "fnSearch", fn := fun _ => fun
  | [d] => { results := [.lit (.bool false)], args := [d] }
  | _ => none }
def FnSearchWrongFalsely : Prop := fnSearchRow.holds Try.pinned (OpenSpec.ofChange fnSearchWrong)

/-- 'laws.FnIsSorted': WHATEVER THE INPUT: true; the input reads as it did. -/
def fnIsSortedSpec : ChangeSpec := { name := "fnIsSorted", fn := fun _ => fun
  | [d1, d2, d3] => { results := [.lit (.bool true)], args := [d1, d2, d3] }
  | _ => none }
def fnIsSortedRow : OpenClaim := { program := "ytglgmkikegbchaa", sum := "734ebe262fc9928f1eac4f46db8fbbd228064b2cbb74a3ccda7ecdb4a0a983cb", func := "sortings/laws.FnIsSorted", spec := "fnIsSorted", unfollowed := true, recurses := true, plainKeys := false, apart := false }
def FnIsSortedSaid : Prop := fnIsSortedRow.holds Try.pinned (OpenSpec.ofChange fnIsSortedSpec)

/-- ITS FALSE NEIGHBOUR: 'it returns false'. Refute it at one input. -/
def fnIsSortedWrong : ChangeSpec := { name := "fnIsSorted", fn := fun _ => fun
  | [d1, d2, d3] => { results := [.lit (.bool false)], args := [d1, d2, d3] }
  | _ => none }
def FnIsSortedWrongFalsely : Prop := fnIsSortedRow.holds Try.pinned (OpenSpec.ofChange fnIsSortedWrong)

/-- 'laws.FnFound': WHATEVER THE INPUT: true; the input reads as it did. -/
def fnFoundSpec : ChangeSpec := { name := "fnFound", fn := fun _ => fun
  | [d1, d2, d3, d4] => { results := [.lit (.bool true)], args := [d1, d2, d3, d4] }
  | _ => none }
def fnFoundRow : OpenClaim := { program := "ytglgmkikegbchaa", sum := "734ebe262fc9928f1eac4f46db8fbbd228064b2cbb74a3ccda7ecdb4a0a983cb", func := "sortings/laws.FnFound", spec := "fnFound", unfollowed := true, recurses := true, plainKeys := false, apart := false }
def FnFoundSaid : Prop := fnFoundRow.holds Try.pinned (OpenSpec.ofChange fnFoundSpec)

/-- ITS FALSE NEIGHBOUR: 'it returns false'. Refute it at one input. -/
def fnFoundWrong : ChangeSpec := { name := "fnFound", fn := fun _ => fun
  | [d1, d2, d3, d4] => { results := [.lit (.bool false)], args := [d1, d2, d3, d4] }
  | _ => none }
def FnFoundWrongFalsely : Prop := fnFoundRow.holds Try.pinned (OpenSpec.ofChange fnFoundWrong)

/-- 'laws.FnEnds': WHATEVER THE INPUT: true; the input reads as it did. -/
def fnEndsSpec : ChangeSpec := { name := "fnEnds", fn := fun _ => fun
  | [d1, d2] => { results := [.lit (.bool true)], args := [d1, d2] }
  | _ => none }
def fnEndsRow : OpenClaim := { program := "ytglgmkikegbchaa", sum := "734ebe262fc9928f1eac4f46db8fbbd228064b2cbb74a3ccda7ecdb4a0a983cb", func := "sortings/laws.FnEnds", spec := "fnEnds", inPlace := ["math.Float64frombits", "math.Float64bits"], unfollowed := true, recurses := true, plainKeys := false, apart := false }
def FnEndsSaid : Prop := fnEndsRow.holds Try.pinned (OpenSpec.ofChange fnEndsSpec)

/-- ITS FALSE NEIGHBOUR: 'it returns false'. Refute it at one input. -/
def fnEndsWrong : ChangeSpec := { name := "fnEnds", fn := fun _ => fun
  | [d1, d2] => { results := [.lit (.bool false)], args := [d1, d2] }
  | _ => none }
def FnEndsWrongFalsely : Prop := fnEndsRow.holds Try.pinned (OpenSpec.ofChange fnEndsWrong)

/-- 'laws.FnRows': WHATEVER THE INPUT: true; the input reads as it did. -/
def fnRowsSpec : ChangeSpec := { name := "fnRows", fn := fun _ => fun
  | [d] => { results := [.lit (.bool true)], args := [d] }
  | _ => none }
def fnRowsRow : OpenClaim := { program := "ytglgmkikegbchaa", sum := "734ebe262fc9928f1eac4f46db8fbbd228064b2cbb74a3ccda7ecdb4a0a983cb", func := "sortings/laws.FnRows", spec := "fnRows", inPlace := ["slices.overlaps[int]"], unfollowed := true, recurses := true, plainKeys := false, apart := false }
def FnRowsSaid : Prop := fnRowsRow.holds Try.pinned (OpenSpec.ofChange fnRowsSpec)

/-- ITS FALSE NEIGHBOUR: 'it returns false'. Refute it at one input. -/
def fnRowsWrong : ChangeSpec := { name := "fnRows", fn := fun _ => fun
  | [d] => { results := [.lit (.bool false)], args := [d] }
  | _ => none }
def FnRowsWrongFalsely : Prop := fnRowsRow.holds Try.pinned (OpenSpec.ofChange fnRowsWrong)

/-- 'laws.FnOrdered': WHATEVER THE INPUT: true; the input reads as it did. -/
def fnOrderedSpec : ChangeSpec := { name := "fnOrdered", fn := fun _ => fun
  | [d1, d2] => { results := [.lit (.bool true)], args := [d1, d2] }
  | _ => none }
def fnOrderedRow : OpenClaim := { program := "ytglgmkikegbchaa", sum := "734ebe262fc9928f1eac4f46db8fbbd228064b2cbb74a3ccda7ecdb4a0a983cb", func := "sortings/laws.FnOrdered", spec := "fnOrdered", inPlace := ["math.Float64frombits", "math.Float64bits"], unfollowed := true, recurses := true, plainKeys := false, apart := false }
def FnOrderedSaid : Prop := fnOrderedRow.holds Try.pinned (OpenSpec.ofChange fnOrderedSpec)

/-- ITS FALSE NEIGHBOUR: 'it returns false'. Refute it at one input. -/
def fnOrderedWrong : ChangeSpec := { name := "fnOrdered", fn := fun _ => fun
  | [d1, d2] => { results := [.lit (.bool false)], args := [d1, d2] }
  | _ => none }
def FnOrderedWrongFalsely : Prop := fnOrderedRow.holds Try.pinned (OpenSpec.ofChange fnOrderedWrong)

/- THE SECOND FORM. 'bulk': how many values and letters a reading holds, each counted each time it is reached (what is shared counts as often as it is met; a slice's spare places count too). A statement '..UptoSaid' is the law's where the arguments, and the package variables that the reading takes, are together of bulk at most 1048576: NARROWER than '..Said'. Prove '..Said' where nothing that the law and all that it calls make is longer than what came in: it says more and counts as full. Else prove '..UptoSaid'. A law counts once. -/
mutual
def uptoBulk {H : Type} : DataW H → Nat
  | .lit (.string bytes) => bytes.length + 1
  | .lit _ => 1
  | .nil => 1
  | .ptr d => uptoBulk d + 1
  | .slice elems spare => uptoBulkAll elems + uptoBulkAll spare + 1
  | .agg parts => uptoBulkAll parts + 1
  | .iface _ d => uptoBulk d + 1
  | .map entries => uptoBulkEntries entries + 1
  | .held _ => 1
def uptoBulkAll {H : Type} : List (DataW H) → Nat
  | [] => 0
  | d :: r => uptoBulk d + uptoBulkAll r
def uptoBulkEntries {H : Type} : List (Lit × DataW H) → Nat
  | [] => 0
  | x :: r => uptoBulkEntry x + uptoBulkEntries r
def uptoBulkEntry {H : Type} : Lit × DataW H → Nat
  | (.string bytes, d) => bytes.length + uptoBulk d + 1
  | (_, d) => uptoBulk d + 1
 end
def uptoSmall : (H : Type) → List (DataW H) → Bool := fun _ ds => decide (uptoBulkAll ds ≤ 1048576)
def OpenSpec.upto (s : _root_.Go.ChangeSpec) : _root_.Go.OpenSpec := { _root_.Go.OpenSpec.ofChange s with cond := some uptoSmall }

/-- 'laws.FnSorted', WHERE WHAT IT READS IS OF BULK AT MOST 1048576: true; the input reads as it did. -/
def fnSortedUptoRow : OpenClaim := { program := "ytglgmkikegbchaa", sum := "734ebe262fc9928f1eac4f46db8fbbd228064b2cbb74a3ccda7ecdb4a0a983cb", func := "sortings/laws.FnSorted", spec := "fnSorted", unfollowed := true, recurses := true, plainKeys := false, apart := false, narrowed := true }
def FnSortedUptoSaid : Prop := fnSortedUptoRow.holds Try.pinned (OpenSpec.upto fnSortedSpec)

/-- 'laws.FnStable', WHERE WHAT IT READS IS OF BULK AT MOST 1048576: true; the input reads as it did. -/
def fnStableUptoRow : OpenClaim := { program := "ytglgmkikegbchaa", sum := "734ebe262fc9928f1eac4f46db8fbbd228064b2cbb74a3ccda7ecdb4a0a983cb", func := "sortings/laws.FnStable", spec := "fnStable", unfollowed := true, recurses := true, plainKeys := false, apart := false, narrowed := true }
def FnStableUptoSaid : Prop := fnStableUptoRow.holds Try.pinned (OpenSpec.upto fnStableSpec)

/-- 'laws.FnSearch', WHERE WHAT IT READS IS OF BULK AT MOST 1048576: true; the input reads as it did. -/
def fnSearchUptoRow : OpenClaim := { program := "ytglgmkikegbchaa", sum := "734ebe262fc9928f1eac4f46db8fbbd228064b2cbb74a3ccda7ecdb4a0a983cb", func := "sortings/laws.FnSearch", spec := "fnSearch", unfollowed := true, recurses := true, plainKeys := false, apart := false, narrowed := true }
def FnSearchUptoSaid : Prop := fnSearchUptoRow.holds Try.pinned (OpenSpec.upto fnSearchSpec)

/-- 'laws.FnIsSorted', WHERE WHAT IT READS IS OF BULK AT MOST 1048576: true; the input reads as it did. -/
def fnIsSortedUptoRow : OpenClaim := { program := "ytglgmkikegbchaa", sum := "734ebe262fc9928f1eac4f46db8fbbd228064b2cbb74a3ccda7ecdb4a0a983cb", func := "sortings/laws.FnIsSorted", spec := "fnIsSorted", unfollowed := true, recurses := true, plainKeys := false, apart := false, narrowed := true }
def FnIsSortedUptoSaid : Prop := fnIsSortedUptoRow.holds Try.pinned (OpenSpec.upto fnIsSortedSpec)

/-- 'laws.FnFound', WHERE WHAT IT READS IS OF BULK AT MOST 1048576: true; the input reads as it did. -/
def fnFoundUptoRow : OpenClaim := { program := "ytglgmkikegbchaa", sum := "734ebe262fc9928f1eac4f46db8fbbd228064b2cbb74a3ccda7ecdb4a0a983cb", func := "sortings/laws.FnFound", spec := "fnFound", unfollowed := true, recurses := true, plainKeys := false, apart := false, narrowed := true }
def FnFoundUptoSaid : Prop := fnFoundUptoRow.holds Try.pinned (OpenSpec.upto fnFoundSpec)

/-- 'laws.FnEnds', WHERE WHAT IT READS IS OF BULK AT MOST 1048576: true; the input reads as it did. -/
def fnEndsUptoRow : OpenClaim := { program := "ytglgmkikegbchaa", sum := "734ebe262fc9928f1eac4f46db8fbbd228064b2cbb74a3ccda7ecdb4a0a983cb", func := "sortings/laws.FnEnds", spec := "fnEnds", inPlace := ["math.Float64frombits", "math.Float64bits"], unfollowed := true, recurses := true, plainKeys := false, apart := false, narrowed := true }
def FnEndsUptoSaid : Prop := fnEndsUptoRow.holds Try.pinned (OpenSpec.upto fnEndsSpec)

/-- 'laws.FnRows', WHERE WHAT IT READS IS OF BULK AT MOST 1048576: true; the input reads as it did. -/
def fnRowsUptoRow : OpenClaim := { program := "ytglgmkikegbchaa", sum := "734ebe262fc9928f1eac4f46db8fbbd228064b2cbb74a3ccda7ecdb4a0a983cb", func := "sortings/laws.FnRows", spec := "fnRows", inPlace := ["slices.overlaps[int]"], unfollowed := true, recurses := true, plainKeys := false, apart := false, narrowed := true }
def FnRowsUptoSaid : Prop := fnRowsUptoRow.holds Try.pinned (OpenSpec.upto fnRowsSpec)

/-- 'laws.FnOrdered', WHERE WHAT IT READS IS OF BULK AT MOST 1048576: true; the input reads as it did. -/
def fnOrderedUptoRow : OpenClaim := { program := "ytglgmkikegbchaa", sum := "734ebe262fc9928f1eac4f46db8fbbd228064b2cbb74a3ccda7ecdb4a0a983cb", func := "sortings/laws.FnOrdered", spec := "fnOrdered", inPlace := ["math.Float64frombits", "math.Float64bits"], unfollowed := true, recurses := true, plainKeys := false, apart := false, narrowed := true }
def FnOrderedUptoSaid : Prop := fnOrderedUptoRow.holds Try.pinned (OpenSpec.upto fnOrderedSpec)

end Rows
end Go.Proofs.Ytglgmkikegbchaa
