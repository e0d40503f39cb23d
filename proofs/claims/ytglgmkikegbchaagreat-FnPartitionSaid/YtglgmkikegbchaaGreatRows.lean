/-
  No cell of these rows narrows 'for every input' (looked for: loops, veiled, ifaces, maps, wideKeys, modest, calm, conditions, laid).
  DERIVED. THE GIVEN ROWS OF THIS SEAT. 19 by the template 'for every input the law returns true; each argument reads behind the call as it read before'; 0 by the template 'total and deterministic' (their statements: YtglgmkikegbchaaGreatTotals.lean).
  GIVEN WITH THE SEED: the statements are not yours to turn. If you find one false, say at which input.
  Laid BY PROGRAM, IN A SANDBOX (cutbox-rows.mjs): the forced cells as the released guide's own fill.sh prints them over the translation 64f20ff5e87cfeb4… (all of the seat's roots in one cut). By AI agents, Wed Nov 11 2026. No macro, syntax, notation, axiom, sorry.
-/
import Derived.Test.YtglgmkikegbchaaGreatChecked
import GoSem.Claim
import GoSem.ClaimJoined
import GoSem.ClaimMapViews
import Derived.JoinedTies
import Derived.KernelRfl
namespace Go.Proofs.YtglgmkikegbchaaGreat
/- THE CELL 'sum', in the pinned program and in every row, IS THE sha256 OF THE DUMP (.gsa) THAT YtglgmkikegbchaaGreatProg.lean LOADS. Nothing in Lean hashes anything: it is a label: what it is worth is what the hold of that sum in a sandbox is worth. -/
noncomputable def Tryz.pinned : Pinned := { name := "ytglgmkikegbchaagreat", sum := "64f20ff5e87cfeb40a3a62c0f74cbc937e4d9083f061dce71d667247a22505c6", checked := Tryz.checked }
namespace Rows
def none {H : Type} : Left H := { results := [], args := [] }

/-- 'laws.FnSwapRange': WHATEVER THE INPUT: true; the input reads as it did. -/
def fnSwapRangeSpec : ChangeSpec := { name := "fnSwapRange", fn := fun _ => fun
  | [d1, d2, d3, d4, d5, d6] => { results := [.lit (.bool true)], args := [d1, d2, d3, d4, d5, d6] }
  | _ => none }
def fnSwapRangeRow : OpenClaim := { program := "ytglgmkikegbchaagreat", sum := "64f20ff5e87cfeb40a3a62c0f74cbc937e4d9083f061dce71d667247a22505c6", func := "sortings/laws.FnSwapRange", spec := "fnSwapRange", unfollowed := true, recurses := true, plainKeys := false, apart := false }
def FnSwapRangeSaid : Prop := fnSwapRangeRow.holds Tryz.pinned (OpenSpec.ofChange fnSwapRangeSpec)

/-- ITS FALSE NEIGHBOUR: 'it returns false'. Refute it at one input. -/
def fnSwapRangeWrong : ChangeSpec := { name := "fnSwapRange", fn := fun _ => fun
  | [d1, d2, d3, d4, d5, d6] => { results := [.lit (.bool false)], args := [d1, d2, d3, d4, d5, d6] }
  | _ => none }
def FnSwapRangeWrongFalsely : Prop := fnSwapRangeRow.holds Tryz.pinned (OpenSpec.ofChange fnSwapRangeWrong)

/-- 'laws.FnSymMerge': WHATEVER THE INPUT: true; the input reads as it did. -/
def fnSymMergeSpec : ChangeSpec := { name := "fnSymMerge", fn := fun _ => fun
  | [d1, d2, d3, d4, d5, d6] => { results := [.lit (.bool true)], args := [d1, d2, d3, d4, d5, d6] }
  | _ => none }
def fnSymMergeRow : OpenClaim := { program := "ytglgmkikegbchaagreat", sum := "64f20ff5e87cfeb40a3a62c0f74cbc937e4d9083f061dce71d667247a22505c6", func := "sortings/laws.FnSymMerge", spec := "fnSymMerge", unfollowed := true, recurses := true, plainKeys := false, apart := false }
def FnSymMergeSaid : Prop := fnSymMergeRow.holds Tryz.pinned (OpenSpec.ofChange fnSymMergeSpec)

/-- ITS FALSE NEIGHBOUR: 'it returns false'. Refute it at one input. -/
def fnSymMergeWrong : ChangeSpec := { name := "fnSymMerge", fn := fun _ => fun
  | [d1, d2, d3, d4, d5, d6] => { results := [.lit (.bool false)], args := [d1, d2, d3, d4, d5, d6] }
  | _ => none }
def FnSymMergeWrongFalsely : Prop := fnSymMergeRow.holds Tryz.pinned (OpenSpec.ofChange fnSymMergeWrong)

/-- 'laws.FnUnordered': WHATEVER THE INPUT: true; the input reads as it did. -/
def fnUnorderedSpec : ChangeSpec := { name := "fnUnordered", fn := fun _ => fun
  | [d1, d2, d3, d4, d5] => { results := [.lit (.bool true)], args := [d1, d2, d3, d4, d5] }
  | _ => none }
def fnUnorderedRow : OpenClaim := { program := "ytglgmkikegbchaagreat", sum := "64f20ff5e87cfeb40a3a62c0f74cbc937e4d9083f061dce71d667247a22505c6", func := "sortings/laws.FnUnordered", spec := "fnUnordered", unfollowed := true, recurses := true, plainKeys := false, apart := false }
def FnUnorderedSaid : Prop := fnUnorderedRow.holds Tryz.pinned (OpenSpec.ofChange fnUnorderedSpec)

/-- ITS FALSE NEIGHBOUR: 'it returns false'. Refute it at one input. -/
def fnUnorderedWrong : ChangeSpec := { name := "fnUnordered", fn := fun _ => fun
  | [d1, d2, d3, d4, d5] => { results := [.lit (.bool false)], args := [d1, d2, d3, d4, d5] }
  | _ => none }
def FnUnorderedWrongFalsely : Prop := fnUnorderedRow.holds Tryz.pinned (OpenSpec.ofChange fnUnorderedWrong)

/-- 'laws.FnAlike': WHATEVER THE INPUT: true; the input reads as it did. -/
def fnAlikeSpec : ChangeSpec := { name := "fnAlike", fn := fun _ => fun
  | [d1, d2, d3, d4] => { results := [.lit (.bool true)], args := [d1, d2, d3, d4] }
  | _ => none }
def fnAlikeRow : OpenClaim := { program := "ytglgmkikegbchaagreat", sum := "64f20ff5e87cfeb40a3a62c0f74cbc937e4d9083f061dce71d667247a22505c6", func := "sortings/laws.FnAlike", spec := "fnAlike", unfollowed := true, recurses := true, plainKeys := false, apart := false }
def FnAlikeSaid : Prop := fnAlikeRow.holds Tryz.pinned (OpenSpec.ofChange fnAlikeSpec)

/-- ITS FALSE NEIGHBOUR: 'it returns false'. Refute it at one input. -/
def fnAlikeWrong : ChangeSpec := { name := "fnAlike", fn := fun _ => fun
  | [d1, d2, d3, d4] => { results := [.lit (.bool false)], args := [d1, d2, d3, d4] }
  | _ => none }
def FnAlikeWrongFalsely : Prop := fnAlikeRow.holds Tryz.pinned (OpenSpec.ofChange fnAlikeWrong)

/-- 'laws.FnBreakPatterns': WHATEVER THE INPUT: true; the input reads as it did. -/
def fnBreakPatternsSpec : ChangeSpec := { name := "fnBreakPatterns", fn := fun _ => fun
  | [d1, d2, d3, d4, d5] => { results := [.lit (.bool true)], args := [d1, d2, d3, d4, d5] }
  | _ => none }
def fnBreakPatternsRow : OpenClaim := { program := "ytglgmkikegbchaagreat", sum := "64f20ff5e87cfeb40a3a62c0f74cbc937e4d9083f061dce71d667247a22505c6", func := "sortings/laws.FnBreakPatterns", spec := "fnBreakPatterns", unfollowed := true, recurses := true, plainKeys := false, apart := false }
def FnBreakPatternsSaid : Prop := fnBreakPatternsRow.holds Tryz.pinned (OpenSpec.ofChange fnBreakPatternsSpec)

/-- ITS FALSE NEIGHBOUR: 'it returns false'. Refute it at one input. -/
def fnBreakPatternsWrong : ChangeSpec := { name := "fnBreakPatterns", fn := fun _ => fun
  | [d1, d2, d3, d4, d5] => { results := [.lit (.bool false)], args := [d1, d2, d3, d4, d5] }
  | _ => none }
def FnBreakPatternsWrongFalsely : Prop := fnBreakPatternsRow.holds Tryz.pinned (OpenSpec.ofChange fnBreakPatternsWrong)

/-- 'laws.FnChoosePivot': WHATEVER THE INPUT: true; the input reads as it did. -/
def fnChoosePivotSpec : ChangeSpec := { name := "fnChoosePivot", fn := fun _ => fun
  | [d1, d2, d3, d4, d5] => { results := [.lit (.bool true)], args := [d1, d2, d3, d4, d5] }
  | _ => none }
def fnChoosePivotRow : OpenClaim := { program := "ytglgmkikegbchaagreat", sum := "64f20ff5e87cfeb40a3a62c0f74cbc937e4d9083f061dce71d667247a22505c6", func := "sortings/laws.FnChoosePivot", spec := "fnChoosePivot", unfollowed := true, recurses := true, plainKeys := false, apart := false }
def FnChoosePivotSaid : Prop := fnChoosePivotRow.holds Tryz.pinned (OpenSpec.ofChange fnChoosePivotSpec)

/-- ITS FALSE NEIGHBOUR: 'it returns false'. Refute it at one input. -/
def fnChoosePivotWrong : ChangeSpec := { name := "fnChoosePivot", fn := fun _ => fun
  | [d1, d2, d3, d4, d5] => { results := [.lit (.bool false)], args := [d1, d2, d3, d4, d5] }
  | _ => none }
def FnChoosePivotWrongFalsely : Prop := fnChoosePivotRow.holds Tryz.pinned (OpenSpec.ofChange fnChoosePivotWrong)

/-- 'laws.FnHeapSort': WHATEVER THE INPUT: true; the input reads as it did. -/
def fnHeapSortSpec : ChangeSpec := { name := "fnHeapSort", fn := fun _ => fun
  | [d1, d2, d3, d4, d5] => { results := [.lit (.bool true)], args := [d1, d2, d3, d4, d5] }
  | _ => none }
def fnHeapSortRow : OpenClaim := { program := "ytglgmkikegbchaagreat", sum := "64f20ff5e87cfeb40a3a62c0f74cbc937e4d9083f061dce71d667247a22505c6", func := "sortings/laws.FnHeapSort", spec := "fnHeapSort", unfollowed := true, recurses := true, plainKeys := false, apart := false }
def FnHeapSortSaid : Prop := fnHeapSortRow.holds Tryz.pinned (OpenSpec.ofChange fnHeapSortSpec)

/-- ITS FALSE NEIGHBOUR: 'it returns false'. Refute it at one input. -/
def fnHeapSortWrong : ChangeSpec := { name := "fnHeapSort", fn := fun _ => fun
  | [d1, d2, d3, d4, d5] => { results := [.lit (.bool false)], args := [d1, d2, d3, d4, d5] }
  | _ => none }
def FnHeapSortWrongFalsely : Prop := fnHeapSortRow.holds Tryz.pinned (OpenSpec.ofChange fnHeapSortWrong)

/-- 'laws.FnInsertion': WHATEVER THE INPUT: true; the input reads as it did. -/
def fnInsertionSpec : ChangeSpec := { name := "fnInsertion", fn := fun _ => fun
  | [d1, d2, d3, d4, d5] => { results := [.lit (.bool true)], args := [d1, d2, d3, d4, d5] }
  | _ => none }
def fnInsertionRow : OpenClaim := { program := "ytglgmkikegbchaagreat", sum := "64f20ff5e87cfeb40a3a62c0f74cbc937e4d9083f061dce71d667247a22505c6", func := "sortings/laws.FnInsertion", spec := "fnInsertion", unfollowed := true, recurses := true, plainKeys := false, apart := false }
def FnInsertionSaid : Prop := fnInsertionRow.holds Tryz.pinned (OpenSpec.ofChange fnInsertionSpec)

/-- ITS FALSE NEIGHBOUR: 'it returns false'. Refute it at one input. -/
def fnInsertionWrong : ChangeSpec := { name := "fnInsertion", fn := fun _ => fun
  | [d1, d2, d3, d4, d5] => { results := [.lit (.bool false)], args := [d1, d2, d3, d4, d5] }
  | _ => none }
def FnInsertionWrongFalsely : Prop := fnInsertionRow.holds Tryz.pinned (OpenSpec.ofChange fnInsertionWrong)

/-- 'laws.FnMedian': WHATEVER THE INPUT: true; the input reads as it did. -/
def fnMedianSpec : ChangeSpec := { name := "fnMedian", fn := fun _ => fun
  | [d1, d2, d3, d4, d5, d6] => { results := [.lit (.bool true)], args := [d1, d2, d3, d4, d5, d6] }
  | _ => none }
def fnMedianRow : OpenClaim := { program := "ytglgmkikegbchaagreat", sum := "64f20ff5e87cfeb40a3a62c0f74cbc937e4d9083f061dce71d667247a22505c6", func := "sortings/laws.FnMedian", spec := "fnMedian", unfollowed := true, recurses := true, plainKeys := false, apart := false }
def FnMedianSaid : Prop := fnMedianRow.holds Tryz.pinned (OpenSpec.ofChange fnMedianSpec)

/-- ITS FALSE NEIGHBOUR: 'it returns false'. Refute it at one input. -/
def fnMedianWrong : ChangeSpec := { name := "fnMedian", fn := fun _ => fun
  | [d1, d2, d3, d4, d5, d6] => { results := [.lit (.bool false)], args := [d1, d2, d3, d4, d5, d6] }
  | _ => none }
def FnMedianWrongFalsely : Prop := fnMedianRow.holds Tryz.pinned (OpenSpec.ofChange fnMedianWrong)

/-- 'laws.FnMedianAdjacent': WHATEVER THE INPUT: true; the input reads as it did. -/
def fnMedianAdjacentSpec : ChangeSpec := { name := "fnMedianAdjacent", fn := fun _ => fun
  | [d1, d2, d3, d4] => { results := [.lit (.bool true)], args := [d1, d2, d3, d4] }
  | _ => none }
def fnMedianAdjacentRow : OpenClaim := { program := "ytglgmkikegbchaagreat", sum := "64f20ff5e87cfeb40a3a62c0f74cbc937e4d9083f061dce71d667247a22505c6", func := "sortings/laws.FnMedianAdjacent", spec := "fnMedianAdjacent", unfollowed := true, recurses := true, plainKeys := false, apart := false }
def FnMedianAdjacentSaid : Prop := fnMedianAdjacentRow.holds Tryz.pinned (OpenSpec.ofChange fnMedianAdjacentSpec)

/-- ITS FALSE NEIGHBOUR: 'it returns false'. Refute it at one input. -/
def fnMedianAdjacentWrong : ChangeSpec := { name := "fnMedianAdjacent", fn := fun _ => fun
  | [d1, d2, d3, d4] => { results := [.lit (.bool false)], args := [d1, d2, d3, d4] }
  | _ => none }
def FnMedianAdjacentWrongFalsely : Prop := fnMedianAdjacentRow.holds Tryz.pinned (OpenSpec.ofChange fnMedianAdjacentWrong)

/-- 'laws.FnOrder2': WHATEVER THE INPUT: true; the input reads as it did. -/
def fnOrder2Spec : ChangeSpec := { name := "fnOrder2", fn := fun _ => fun
  | [d1, d2, d3, d4, d5] => { results := [.lit (.bool true)], args := [d1, d2, d3, d4, d5] }
  | _ => none }
def fnOrder2Row : OpenClaim := { program := "ytglgmkikegbchaagreat", sum := "64f20ff5e87cfeb40a3a62c0f74cbc937e4d9083f061dce71d667247a22505c6", func := "sortings/laws.FnOrder2", spec := "fnOrder2", unfollowed := true, recurses := true, plainKeys := false, apart := false }
def FnOrder2Said : Prop := fnOrder2Row.holds Tryz.pinned (OpenSpec.ofChange fnOrder2Spec)

/-- ITS FALSE NEIGHBOUR: 'it returns false'. Refute it at one input. -/
def fnOrder2Wrong : ChangeSpec := { name := "fnOrder2", fn := fun _ => fun
  | [d1, d2, d3, d4, d5] => { results := [.lit (.bool false)], args := [d1, d2, d3, d4, d5] }
  | _ => none }
def FnOrder2WrongFalsely : Prop := fnOrder2Row.holds Tryz.pinned (OpenSpec.ofChange fnOrder2Wrong)

/-- 'laws.FnPartialInsertion': WHATEVER THE INPUT: true; the input reads as it did. -/
def fnPartialInsertionSpec : ChangeSpec := { name := "fnPartialInsertion", fn := fun _ => fun
  | [d1, d2, d3, d4, d5] => { results := [.lit (.bool true)], args := [d1, d2, d3, d4, d5] }
  | _ => none }
def fnPartialInsertionRow : OpenClaim := { program := "ytglgmkikegbchaagreat", sum := "64f20ff5e87cfeb40a3a62c0f74cbc937e4d9083f061dce71d667247a22505c6", func := "sortings/laws.FnPartialInsertion", spec := "fnPartialInsertion", unfollowed := true, recurses := true, plainKeys := false, apart := false }
def FnPartialInsertionSaid : Prop := fnPartialInsertionRow.holds Tryz.pinned (OpenSpec.ofChange fnPartialInsertionSpec)

/-- ITS FALSE NEIGHBOUR: 'it returns false'. Refute it at one input. -/
def fnPartialInsertionWrong : ChangeSpec := { name := "fnPartialInsertion", fn := fun _ => fun
  | [d1, d2, d3, d4, d5] => { results := [.lit (.bool false)], args := [d1, d2, d3, d4, d5] }
  | _ => none }
def FnPartialInsertionWrongFalsely : Prop := fnPartialInsertionRow.holds Tryz.pinned (OpenSpec.ofChange fnPartialInsertionWrong)

/-- 'laws.FnPartition': WHATEVER THE INPUT: true; the input reads as it did. -/
def fnPartitionSpec : ChangeSpec := { name := "fnPartition", fn := fun _ => fun
  | [d1, d2, d3, d4, d5, d6] => { results := [.lit (.bool true)], args := [d1, d2, d3, d4, d5, d6] }
  | _ => none }
def fnPartitionRow : OpenClaim := { program := "ytglgmkikegbchaagreat", sum := "64f20ff5e87cfeb40a3a62c0f74cbc937e4d9083f061dce71d667247a22505c6", func := "sortings/laws.FnPartition", spec := "fnPartition", unfollowed := true, recurses := true, plainKeys := false, apart := false }
def FnPartitionSaid : Prop := fnPartitionRow.holds Tryz.pinned (OpenSpec.ofChange fnPartitionSpec)

/-- ITS FALSE NEIGHBOUR: 'it returns false'. Refute it at one input. -/
def fnPartitionWrong : ChangeSpec := { name := "fnPartition", fn := fun _ => fun
  | [d1, d2, d3, d4, d5, d6] => { results := [.lit (.bool false)], args := [d1, d2, d3, d4, d5, d6] }
  | _ => none }
def FnPartitionWrongFalsely : Prop := fnPartitionRow.holds Tryz.pinned (OpenSpec.ofChange fnPartitionWrong)

/-- 'laws.FnPartitionEqual': WHATEVER THE INPUT: true; the input reads as it did. -/
def fnPartitionEqualSpec : ChangeSpec := { name := "fnPartitionEqual", fn := fun _ => fun
  | [d1, d2, d3, d4, d5, d6] => { results := [.lit (.bool true)], args := [d1, d2, d3, d4, d5, d6] }
  | _ => none }
def fnPartitionEqualRow : OpenClaim := { program := "ytglgmkikegbchaagreat", sum := "64f20ff5e87cfeb40a3a62c0f74cbc937e4d9083f061dce71d667247a22505c6", func := "sortings/laws.FnPartitionEqual", spec := "fnPartitionEqual", unfollowed := true, recurses := true, plainKeys := false, apart := false }
def FnPartitionEqualSaid : Prop := fnPartitionEqualRow.holds Tryz.pinned (OpenSpec.ofChange fnPartitionEqualSpec)

/-- ITS FALSE NEIGHBOUR: 'it returns false'. Refute it at one input. -/
def fnPartitionEqualWrong : ChangeSpec := { name := "fnPartitionEqual", fn := fun _ => fun
  | [d1, d2, d3, d4, d5, d6] => { results := [.lit (.bool false)], args := [d1, d2, d3, d4, d5, d6] }
  | _ => none }
def FnPartitionEqualWrongFalsely : Prop := fnPartitionEqualRow.holds Tryz.pinned (OpenSpec.ofChange fnPartitionEqualWrong)

/-- 'laws.FnQuick': WHATEVER THE INPUT: true; the input reads as it did. -/
def fnQuickSpec : ChangeSpec := { name := "fnQuick", fn := fun _ => fun
  | [d1, d2, d3, d4, d5, d6] => { results := [.lit (.bool true)], args := [d1, d2, d3, d4, d5, d6] }
  | _ => none }
def fnQuickRow : OpenClaim := { program := "ytglgmkikegbchaagreat", sum := "64f20ff5e87cfeb40a3a62c0f74cbc937e4d9083f061dce71d667247a22505c6", func := "sortings/laws.FnQuick", spec := "fnQuick", unfollowed := true, recurses := true, plainKeys := false, apart := false }
def FnQuickSaid : Prop := fnQuickRow.holds Tryz.pinned (OpenSpec.ofChange fnQuickSpec)

/-- ITS FALSE NEIGHBOUR: 'it returns false'. Refute it at one input. -/
def fnQuickWrong : ChangeSpec := { name := "fnQuick", fn := fun _ => fun
  | [d1, d2, d3, d4, d5, d6] => { results := [.lit (.bool false)], args := [d1, d2, d3, d4, d5, d6] }
  | _ => none }
def FnQuickWrongFalsely : Prop := fnQuickRow.holds Tryz.pinned (OpenSpec.ofChange fnQuickWrong)

/-- 'laws.FnReverseRange': WHATEVER THE INPUT: true; the input reads as it did. -/
def fnReverseRangeSpec : ChangeSpec := { name := "fnReverseRange", fn := fun _ => fun
  | [d1, d2, d3, d4, d5] => { results := [.lit (.bool true)], args := [d1, d2, d3, d4, d5] }
  | _ => none }
def fnReverseRangeRow : OpenClaim := { program := "ytglgmkikegbchaagreat", sum := "64f20ff5e87cfeb40a3a62c0f74cbc937e4d9083f061dce71d667247a22505c6", func := "sortings/laws.FnReverseRange", spec := "fnReverseRange", unfollowed := true, recurses := true, plainKeys := false, apart := false }
def FnReverseRangeSaid : Prop := fnReverseRangeRow.holds Tryz.pinned (OpenSpec.ofChange fnReverseRangeSpec)

/-- ITS FALSE NEIGHBOUR: 'it returns false'. Refute it at one input. -/
def fnReverseRangeWrong : ChangeSpec := { name := "fnReverseRange", fn := fun _ => fun
  | [d1, d2, d3, d4, d5] => { results := [.lit (.bool false)], args := [d1, d2, d3, d4, d5] }
  | _ => none }
def FnReverseRangeWrongFalsely : Prop := fnReverseRangeRow.holds Tryz.pinned (OpenSpec.ofChange fnReverseRangeWrong)

/-- 'laws.FnRotate': WHATEVER THE INPUT: true; the input reads as it did. -/
def fnRotateSpec : ChangeSpec := { name := "fnRotate", fn := fun _ => fun
  | [d1, d2, d3, d4, d5, d6] => { results := [.lit (.bool true)], args := [d1, d2, d3, d4, d5, d6] }
  | _ => none }
def fnRotateRow : OpenClaim := { program := "ytglgmkikegbchaagreat", sum := "64f20ff5e87cfeb40a3a62c0f74cbc937e4d9083f061dce71d667247a22505c6", func := "sortings/laws.FnRotate", spec := "fnRotate", unfollowed := true, recurses := true, plainKeys := false, apart := false }
def FnRotateSaid : Prop := fnRotateRow.holds Tryz.pinned (OpenSpec.ofChange fnRotateSpec)

/-- ITS FALSE NEIGHBOUR: 'it returns false'. Refute it at one input. -/
def fnRotateWrong : ChangeSpec := { name := "fnRotate", fn := fun _ => fun
  | [d1, d2, d3, d4, d5, d6] => { results := [.lit (.bool false)], args := [d1, d2, d3, d4, d5, d6] }
  | _ => none }
def FnRotateWrongFalsely : Prop := fnRotateRow.holds Tryz.pinned (OpenSpec.ofChange fnRotateWrong)

/-- 'laws.FnSiftDown': WHATEVER THE INPUT: true; the input reads as it did. -/
def fnSiftDownSpec : ChangeSpec := { name := "fnSiftDown", fn := fun _ => fun
  | [d1, d2, d3, d4, d5, d6] => { results := [.lit (.bool true)], args := [d1, d2, d3, d4, d5, d6] }
  | _ => none }
def fnSiftDownRow : OpenClaim := { program := "ytglgmkikegbchaagreat", sum := "64f20ff5e87cfeb40a3a62c0f74cbc937e4d9083f061dce71d667247a22505c6", func := "sortings/laws.FnSiftDown", spec := "fnSiftDown", unfollowed := true, recurses := true, plainKeys := false, apart := false }
def FnSiftDownSaid : Prop := fnSiftDownRow.holds Tryz.pinned (OpenSpec.ofChange fnSiftDownSpec)

/-- ITS FALSE NEIGHBOUR: 'it returns false'. Refute it at one input. -/
def fnSiftDownWrong : ChangeSpec := { name := "fnSiftDown", fn := fun _ => fun
  | [d1, d2, d3, d4, d5, d6] => { results := [.lit (.bool false)], args := [d1, d2, d3, d4, d5, d6] }
  | _ => none }
def FnSiftDownWrongFalsely : Prop := fnSiftDownRow.holds Tryz.pinned (OpenSpec.ofChange fnSiftDownWrong)

/-- 'laws.FnStableAll': WHATEVER THE INPUT: true; the input reads as it did. -/
def fnStableAllSpec : ChangeSpec := { name := "fnStableAll", fn := fun _ => fun
  | [d1, d2, d3, d4] => { results := [.lit (.bool true)], args := [d1, d2, d3, d4] }
  | _ => none }
def fnStableAllRow : OpenClaim := { program := "ytglgmkikegbchaagreat", sum := "64f20ff5e87cfeb40a3a62c0f74cbc937e4d9083f061dce71d667247a22505c6", func := "sortings/laws.FnStableAll", spec := "fnStableAll", unfollowed := true, recurses := true, plainKeys := false, apart := false }
def FnStableAllSaid : Prop := fnStableAllRow.holds Tryz.pinned (OpenSpec.ofChange fnStableAllSpec)

/-- ITS FALSE NEIGHBOUR: 'it returns false'. Refute it at one input. -/
def fnStableAllWrong : ChangeSpec := { name := "fnStableAll", fn := fun _ => fun
  | [d1, d2, d3, d4] => { results := [.lit (.bool false)], args := [d1, d2, d3, d4] }
  | _ => none }
def FnStableAllWrongFalsely : Prop := fnStableAllRow.holds Tryz.pinned (OpenSpec.ofChange fnStableAllWrong)

/- THE SECOND FORM. 'bulk': how many values and letters a reading holds, each counted each time it is reached (what is shared counts as often as it is met; a slice's spare places count too). A statement '..UptoSaid' is the law's where the arguments, and the package variables that the reading takes, are together of bulk at most 1048576: NARROWER than '..Said'. Prove '..Said' where nothing that the law and all that it calls make is longer than what came in: it says more and counts as full. Else prove '..UptoSaid'. A law counts once. -/
mutual
def uptoBulk {H : Type} : DataW H → Nat
  | .lit (.string bytes) => bytes.length + 1
  | .lit _ => 1
  | .nil => 1
  | .ptr d => uptoBulk d + 1
  | .slice elems spare => uptoBulkAll elems + uptoBulkAll spare + 1
  | .agg parts => uptoBulkAll parts + 1
  | .iface _ d => uptoBulk d + 1
  | .map entries => uptoBulkEntries entries + 1
  | .held _ => 1
def uptoBulkAll {H : Type} : List (DataW H) → Nat
  | [] => 0
  | d :: r => uptoBulk d + uptoBulkAll r
def uptoBulkEntries {H : Type} : List (Lit × DataW H) → Nat
  | [] => 0
  | x :: r => uptoBulkEntry x + uptoBulkEntries r
def uptoBulkEntry {H : Type} : Lit × DataW H → Nat
  | (.string bytes, d) => bytes.length + uptoBulk d + 1
  | (_, d) => uptoBulk d + 1
 end
def uptoSmall : (H : Type) → List (DataW H) → Bool := fun _ ds => decide (uptoBulkAll ds ≤ 1048576)
def OpenSpec.upto (s : _root_.Go.ChangeSpec) : _root_.Go.OpenSpec := { _root_.Go.OpenSpec.ofChange s with cond := some uptoSmall }

/-- 'laws.FnSwapRange', WHERE WHAT IT READS IS OF BULK AT MOST 1048576: true; the input reads as it did. -/
def fnSwapRangeUptoRow : OpenClaim := { program := "ytglgmkikegbchaagreat", sum := "64f20ff5e87cfeb40a3a62c0f74cbc937e4d9083f061dce71d667247a22505c6", func := "sortings/laws.FnSwapRange", spec := "fnSwapRange", unfollowed := true, recurses := true, plainKeys := false, apart := false, narrowed := true }
def FnSwapRangeUptoSaid : Prop := fnSwapRangeUptoRow.holds Tryz.pinned (OpenSpec.upto fnSwapRangeSpec)

/-- 'laws.FnSymMerge', WHERE WHAT IT READS IS OF BULK AT MOST 1048576: true; the input reads as it did. -/
def fnSymMergeUptoRow : OpenClaim := { program := "ytglgmkikegbchaagreat", sum := "64f20ff5e87cfeb40a3a62c0f74cbc937e4d9083f061dce71d667247a22505c6", func := "sortings/laws.FnSymMerge", spec := "fnSymMerge", unfollowed := true, recurses := true, plainKeys := false, apart := false, narrowed := true }
def FnSymMergeUptoSaid : Prop := fnSymMergeUptoRow.holds Tryz.pinned (OpenSpec.upto fnSymMergeSpec)

/-- 'laws.FnUnordered', WHERE WHAT IT READS IS OF BULK AT MOST 1048576: true; the input reads as it did. -/
def fnUnorderedUptoRow : OpenClaim := { program := "ytglgmkikegbchaagreat", sum := "64f20ff5e87cfeb40a3a62c0f74cbc937e4d9083f061dce71d667247a22505c6", func := "sortings/laws.FnUnordered", spec := "fnUnordered", unfollowed := true, recurses := true, plainKeys := false, apart := false, narrowed := true }
def FnUnorderedUptoSaid : Prop := fnUnorderedUptoRow.holds Tryz.pinned (OpenSpec.upto fnUnorderedSpec)

/-- 'laws.FnAlike', WHERE WHAT IT READS IS OF BULK AT MOST 1048576: true; the input reads as it did. -/
def fnAlikeUptoRow : OpenClaim := { program := "ytglgmkikegbchaagreat", sum := "64f20ff5e87cfeb40a3a62c0f74cbc937e4d9083f061dce71d667247a22505c6", func := "sortings/laws.FnAlike", spec := "fnAlike", unfollowed := true, recurses := true, plainKeys := false, apart := false, narrowed := true }
def FnAlikeUptoSaid : Prop := fnAlikeUptoRow.holds Tryz.pinned (OpenSpec.upto fnAlikeSpec)

/-- 'laws.FnBreakPatterns', WHERE WHAT IT READS IS OF BULK AT MOST 1048576: true; the input reads as it did. -/
def fnBreakPatternsUptoRow : OpenClaim := { program := "ytglgmkikegbchaagreat", sum := "64f20ff5e87cfeb40a3a62c0f74cbc937e4d9083f061dce71d667247a22505c6", func := "sortings/laws.FnBreakPatterns", spec := "fnBreakPatterns", unfollowed := true, recurses := true, plainKeys := false, apart := false, narrowed := true }
def FnBreakPatternsUptoSaid : Prop := fnBreakPatternsUptoRow.holds Tryz.pinned (OpenSpec.upto fnBreakPatternsSpec)

/-- 'laws.FnChoosePivot', WHERE WHAT IT READS IS OF BULK AT MOST 1048576: true; the input reads as it did. -/
def fnChoosePivotUptoRow : OpenClaim := { program := "ytglgmkikegbchaagreat", sum := "64f20ff5e87cfeb40a3a62c0f74cbc937e4d9083f061dce71d667247a22505c6", func := "sortings/laws.FnChoosePivot", spec := "fnChoosePivot", unfollowed := true, recurses := true, plainKeys := false, apart := false, narrowed := true }
def FnChoosePivotUptoSaid : Prop := fnChoosePivotUptoRow.holds Tryz.pinned (OpenSpec.upto fnChoosePivotSpec)

/-- 'laws.FnHeapSort', WHERE WHAT IT READS IS OF BULK AT MOST 1048576: true; the input reads as it did. -/
def fnHeapSortUptoRow : OpenClaim := { program := "ytglgmkikegbchaagreat", sum := "64f20ff5e87cfeb40a3a62c0f74cbc937e4d9083f061dce71d667247a22505c6", func := "sortings/laws.FnHeapSort", spec := "fnHeapSort", unfollowed := true, recurses := true, plainKeys := false, apart := false, narrowed := true }
def FnHeapSortUptoSaid : Prop := fnHeapSortUptoRow.holds Tryz.pinned (OpenSpec.upto fnHeapSortSpec)

/-- 'laws.FnInsertion', WHERE WHAT IT READS IS OF BULK AT MOST 1048576: true; the input reads as it did. -/
def fnInsertionUptoRow : OpenClaim := { program := "ytglgmkikegbchaagreat", sum := "64f20ff5e87cfeb40a3a62c0f74cbc937e4d9083f061dce71d667247a22505c6", func := "sortings/laws.FnInsertion", spec := "fnInsertion", unfollowed := true, recurses := true, plainKeys := false, apart := false, narrowed := true }
def FnInsertionUptoSaid : Prop := fnInsertionUptoRow.holds Tryz.pinned (OpenSpec.upto fnInsertionSpec)

/-- 'laws.FnMedian', WHERE WHAT IT READS IS OF BULK AT MOST 1048576: true; the input reads as it did. -/
def fnMedianUptoRow : OpenClaim := { program := "ytglgmkikegbchaagreat", sum := "64f20ff5e87cfeb40a3a62c0f74cbc937e4d9083f061dce71d667247a22505c6", func := "sortings/laws.FnMedian", spec := "fnMedian", unfollowed := true, recurses := true, plainKeys := false, apart := false, narrowed := true }
def FnMedianUptoSaid : Prop := fnMedianUptoRow.holds Tryz.pinned (OpenSpec.upto fnMedianSpec)

/-- 'laws.FnMedianAdjacent', WHERE WHAT IT READS IS OF BULK AT MOST 1048576: true; the input reads as it did. -/
def fnMedianAdjacentUptoRow : OpenClaim := { program := "ytglgmkikegbchaagreat", sum := "64f20ff5e87cfeb40a3a62c0f74cbc937e4d9083f061dce71d667247a22505c6", func := "sortings/laws.FnMedianAdjacent", spec := "fnMedianAdjacent", unfollowed := true, recurses := true, plainKeys := false, apart := false, narrowed := true }
def FnMedianAdjacentUptoSaid : Prop := fnMedianAdjacentUptoRow.holds Tryz.pinned (OpenSpec.upto fnMedianAdjacentSpec)

/-- 'laws.FnOrder2', WHERE WHAT IT READS IS OF BULK AT MOST 1048576: true; the input reads as it did. -/
def fnOrder2UptoRow : OpenClaim := { program := "ytglgmkikegbchaagreat", sum := "64f20ff5e87cfeb40a3a62c0f74cbc937e4d9083f061dce71d667247a22505c6", func := "sortings/laws.FnOrder2", spec := "fnOrder2", unfollowed := true, recurses := true, plainKeys := false, apart := false, narrowed := true }
def FnOrder2UptoSaid : Prop := fnOrder2UptoRow.holds Tryz.pinned (OpenSpec.upto fnOrder2Spec)

/-- 'laws.FnPartialInsertion', WHERE WHAT IT READS IS OF BULK AT MOST 1048576: true; the input reads as it did. -/
def fnPartialInsertionUptoRow : OpenClaim := { program := "ytglgmkikegbchaagreat", sum := "64f20ff5e87cfeb40a3a62c0f74cbc937e4d9083f061dce71d667247a22505c6", func := "sortings/laws.FnPartialInsertion", spec := "fnPartialInsertion", unfollowed := true, recurses := true, plainKeys := false, apart := false, narrowed := true }
def FnPartialInsertionUptoSaid : Prop := fnPartialInsertionUptoRow.holds Tryz.pinned (OpenSpec.upto fnPartialInsertionSpec)

/-- 'laws.FnPartition', WHERE WHAT IT READS IS OF BULK AT MOST 1048576: true; the input reads as it did. -/
def fnPartitionUptoRow : OpenClaim := { program := "ytglgmkikegbchaagreat", sum := "64f20ff5e87cfeb40a3a62c0f74cbc937e4d9083f061dce71d667247a22505c6", func := "sortings/laws.FnPartition", spec := "fnPartition", unfollowed := true, recurses := true, plainKeys := false, apart := false, narrowed := true }
def FnPartitionUptoSaid : Prop := fnPartitionUptoRow.holds Tryz.pinned (OpenSpec.upto fnPartitionSpec)

/-- 'laws.FnPartitionEqual', WHERE WHAT IT READS IS OF BULK AT MOST 1048576: true; the input reads as it did. -/
def fnPartitionEqualUptoRow : OpenClaim := { program := "ytglgmkikegbchaagreat", sum := "64f20ff5e87cfeb40a3a62c0f74cbc937e4d9083f061dce71d667247a22505c6", func := "sortings/laws.FnPartitionEqual", spec := "fnPartitionEqual", unfollowed := true, recurses := true, plainKeys := false, apart := false, narrowed := true }
def FnPartitionEqualUptoSaid : Prop := fnPartitionEqualUptoRow.holds Tryz.pinned (OpenSpec.upto fnPartitionEqualSpec)

/-- 'laws.FnQuick', WHERE WHAT IT READS IS OF BULK AT MOST 1048576: true; the input reads as it did. -/
def fnQuickUptoRow : OpenClaim := { program := "ytglgmkikegbchaagreat", sum := "64f20ff5e87cfeb40a3a62c0f74cbc937e4d9083f061dce71d667247a22505c6", func := "sortings/laws.FnQuick", spec := "fnQuick", unfollowed := true, recurses := true, plainKeys := false, apart := false, narrowed := true }
def FnQuickUptoSaid : Prop := fnQuickUptoRow.holds Tryz.pinned (OpenSpec.upto fnQuickSpec)

/-- 'laws.FnReverseRange', WHERE WHAT IT READS IS OF BULK AT MOST 1048576: true; the input reads as it did. -/
def fnReverseRangeUptoRow : OpenClaim := { program := "ytglgmkikegbchaagreat", sum := "64f20ff5e87cfeb40a3a62c0f74cbc937e4d9083f061dce71d667247a22505c6", func := "sortings/laws.FnReverseRange", spec := "fnReverseRange", unfollowed := true, recurses := true, plainKeys := false, apart := false, narrowed := true }
def FnReverseRangeUptoSaid : Prop := fnReverseRangeUptoRow.holds Tryz.pinned (OpenSpec.upto fnReverseRangeSpec)

/-- 'laws.FnRotate', WHERE WHAT IT READS IS OF BULK AT MOST 1048576: true; the input reads as it did. -/
def fnRotateUptoRow : OpenClaim := { program := "ytglgmkikegbchaagreat", sum := "64f20ff5e87cfeb40a3a62c0f74cbc937e4d9083f061dce71d667247a22505c6", func := "sortings/laws.FnRotate", spec := "fnRotate", unfollowed := true, recurses := true, plainKeys := false, apart := false, narrowed := true }
def FnRotateUptoSaid : Prop := fnRotateUptoRow.holds Tryz.pinned (OpenSpec.upto fnRotateSpec)

/-- 'laws.FnSiftDown', WHERE WHAT IT READS IS OF BULK AT MOST 1048576: true; the input reads as it did. -/
def fnSiftDownUptoRow : OpenClaim := { program := "ytglgmkikegbchaagreat", sum := "64f20ff5e87cfeb40a3a62c0f74cbc937e4d9083f061dce71d667247a22505c6", func := "sortings/laws.FnSiftDown", spec := "fnSiftDown", unfollowed := true, recurses := true, plainKeys := false, apart := false, narrowed := true }
def FnSiftDownUptoSaid : Prop := fnSiftDownUptoRow.holds Tryz.pinned (OpenSpec.upto fnSiftDownSpec)

/-- 'laws.FnStableAll', WHERE WHAT IT READS IS OF BULK AT MOST 1048576: true; the input reads as it did. -/
def fnStableAllUptoRow : OpenClaim := { program := "ytglgmkikegbchaagreat", sum := "64f20ff5e87cfeb40a3a62c0f74cbc937e4d9083f061dce71d667247a22505c6", func := "sortings/laws.FnStableAll", spec := "fnStableAll", unfollowed := true, recurses := true, plainKeys := false, apart := false, narrowed := true }
def FnStableAllUptoSaid : Prop := fnStableAllUptoRow.holds Tryz.pinned (OpenSpec.upto fnStableAllSpec)

end Rows
end Go.Proofs.YtglgmkikegbchaaGreat
