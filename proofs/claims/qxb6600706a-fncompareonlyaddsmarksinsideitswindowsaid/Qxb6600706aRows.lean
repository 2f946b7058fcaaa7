/-
  No cell of these rows narrows 'for every input' (looked for: loops, veiled, ifaces, maps, wideKeys, modest, calm, conditions, laid).
  DERIVED. THE GIVEN ROWS OF THIS SEAT. 6 by the template 'for every input the law returns true; each argument reads behind the call as it read before'; 0 by the template 'total and deterministic' (their statements: Qxb6600706aTotals.lean).
  GIVEN WITH THE SEED: the statements are not yours to turn. If you find one false, say at which input.
  Laid BY PROGRAM, IN A SANDBOX (cutbox-rows.mjs): the forced cells as the released guide's own fill.sh prints them over the translation 9b54d2184e73e409… (all of the seat's roots in one cut). By AI agents, Wed Nov 11 2026. No macro, syntax, notation, axiom, sorry.
-/
import Derived.Test.Qxb6600706aChecked
import GoSem.Claim
import GoSem.ClaimJoined
import GoSem.ClaimMapViews
import Derived.JoinedTies
import Derived.KernelRfl
namespace Go.Proofs.Qxb6600706a
/- THE CELL 'sum', in the pinned program and in every row, IS THE sha256 OF THE DUMP (.gsa) THAT Qxb6600706aProg.lean LOADS. Nothing in Lean hashes anything: it is a label: what it is worth is what the hold of that sum in a sandbox is worth. -/
noncomputable def Try.pinned : Pinned := { name := "qxb6600706a", sum := "9b54d2184e73e409772fa6106fa1e10ca2160fa648915e71d2148a38e8f18e21", checked := Try.checked }
namespace Rows
def none {H : Type} : Left H := { results := [], args := [] }

/-- 'zzlaws_internal_diff_b1.FnMiddleSnakeSplitsAShortestScriptInHalves': WHATEVER THE INPUT: true; the input reads as it did. -/
def fnMiddleSnakeSplitsAShortestScriptInHalvesSpec : ChangeSpec := { name := "fnMiddleSnakeSplitsAShortestScriptInHalves", fn := fun _ => fun
  | [d1, d2] => { results := [.lit (.bool true)], args := [d1, d2] }
  | _ => none }
def fnMiddleSnakeSplitsAShortestScriptInHalvesRow : OpenClaim := { program := "qxb6600706a", sum := "9b54d2184e73e409772fa6106fa1e10ca2160fa648915e71d2148a38e8f18e21", func := "example.com/tablewright/tablewright/zzlaws_internal_diff_b1.FnMiddleSnakeSplitsAShortestScriptInHalves", spec := "fnMiddleSnakeSplitsAShortestScriptInHalves", apart := false }
def FnMiddleSnakeSplitsAShortestScriptInHalvesSaid : Prop := fnMiddleSnakeSplitsAShortestScriptInHalvesRow.holds Try.pinned (OpenSpec.ofChange fnMiddleSnakeSplitsAShortestScriptInHalvesSpec)

/-- ITS FALSE NEIGHBOUR: 'it returns false'. Refute it at one input. -/
def fnMiddleSnakeSplitsAShortestScriptInHalvesWrong : ChangeSpec := { name := "fnMiddleSnakeSplitsAShortestScriptInHalves", fn := fun _ => fun
  | [d1, d2] => { results := [.lit (.bool false)], args := [d1, d2] }
  | _ => none }
def FnMiddleSnakeSplitsAShortestScriptInHalvesWrongFalsely : Prop := fnMiddleSnakeSplitsAShortestScriptInHalvesRow.holds Try.pinned (OpenSpec.ofChange fnMiddleSnakeSplitsAShortestScriptInHalvesWrong)

/-- 'zzlaws_internal_diff_b1.FnMiddleSnakeIsACommonRunStrictlyInside': WHATEVER THE INPUT: true; the input reads as it did. -/
def fnMiddleSnakeIsACommonRunStrictlyInsideSpec : ChangeSpec := { name := "fnMiddleSnakeIsACommonRunStrictlyInside", fn := fun _ => fun
  | [d1, d2] => { results := [.lit (.bool true)], args := [d1, d2] }
  | _ => none }
def fnMiddleSnakeIsACommonRunStrictlyInsideRow : OpenClaim := { program := "qxb6600706a", sum := "9b54d2184e73e409772fa6106fa1e10ca2160fa648915e71d2148a38e8f18e21", func := "example.com/tablewright/tablewright/zzlaws_internal_diff_b1.FnMiddleSnakeIsACommonRunStrictlyInside", spec := "fnMiddleSnakeIsACommonRunStrictlyInside", apart := false }
def FnMiddleSnakeIsACommonRunStrictlyInsideSaid : Prop := fnMiddleSnakeIsACommonRunStrictlyInsideRow.holds Try.pinned (OpenSpec.ofChange fnMiddleSnakeIsACommonRunStrictlyInsideSpec)

/-- ITS FALSE NEIGHBOUR: 'it returns false'. Refute it at one input. -/
def fnMiddleSnakeIsACommonRunStrictlyInsideWrong : ChangeSpec := { name := "fnMiddleSnakeIsACommonRunStrictlyInside", fn := fun _ => fun
  | [d1, d2] => { results := [.lit (.bool false)], args := [d1, d2] }
  | _ => none }
def FnMiddleSnakeIsACommonRunStrictlyInsideWrongFalsely : Prop := fnMiddleSnakeIsACommonRunStrictlyInsideRow.holds Try.pinned (OpenSpec.ofChange fnMiddleSnakeIsACommonRunStrictlyInsideWrong)

/-- 'zzlaws_internal_diff_b1.FnCompareMarksALongestCommonSubsequence': WHATEVER THE INPUT: true; the input reads as it did. -/
def fnCompareMarksALongestCommonSubsequenceSpec : ChangeSpec := { name := "fnCompareMarksALongestCommonSubsequence", fn := fun _ => fun
  | [d1, d2, d3, d4, d5, d6] => { results := [.lit (.bool true)], args := [d1, d2, d3, d4, d5, d6] }
  | _ => none }
def fnCompareMarksALongestCommonSubsequenceRow : OpenClaim := { program := "qxb6600706a", sum := "9b54d2184e73e409772fa6106fa1e10ca2160fa648915e71d2148a38e8f18e21", func := "example.com/tablewright/tablewright/zzlaws_internal_diff_b1.FnCompareMarksALongestCommonSubsequence", spec := "fnCompareMarksALongestCommonSubsequence", recurses := true, apart := false }
def FnCompareMarksALongestCommonSubsequenceSaid : Prop := fnCompareMarksALongestCommonSubsequenceRow.holds Try.pinned (OpenSpec.ofChange fnCompareMarksALongestCommonSubsequenceSpec)

/-- ITS FALSE NEIGHBOUR: 'it returns false'. Refute it at one input. -/
def fnCompareMarksALongestCommonSubsequenceWrong : ChangeSpec := { name := "fnCompareMarksALongestCommonSubsequence", fn := fun _ => fun
  | [d1, d2, d3, d4, d5, d6] => { results := [.lit (.bool false)], args := [d1, d2, d3, d4, d5, d6] }
  | _ => none }
def FnCompareMarksALongestCommonSubsequenceWrongFalsely : Prop := fnCompareMarksALongestCommonSubsequenceRow.holds Try.pinned (OpenSpec.ofChange fnCompareMarksALongestCommonSubsequenceWrong)

/-- 'zzlaws_internal_diff_b1.FnCompareOnlyAddsMarksInsideItsWindow': WHATEVER THE INPUT: true; the input reads as it did. -/
def fnCompareOnlyAddsMarksInsideItsWindowSpec : ChangeSpec := { name := "fnCompareOnlyAddsMarksInsideItsWindow", fn := fun _ => fun
  | [d1, d2, d3, d4, d5, d6, d7, d8] => { results := [.lit (.bool true)], args := [d1, d2, d3, d4, d5, d6, d7, d8] }
  | _ => none }
def fnCompareOnlyAddsMarksInsideItsWindowRow : OpenClaim := { program := "qxb6600706a", sum := "9b54d2184e73e409772fa6106fa1e10ca2160fa648915e71d2148a38e8f18e21", func := "example.com/tablewright/tablewright/zzlaws_internal_diff_b1.FnCompareOnlyAddsMarksInsideItsWindow", spec := "fnCompareOnlyAddsMarksInsideItsWindow", recurses := true, apart := false }
def FnCompareOnlyAddsMarksInsideItsWindowSaid : Prop := fnCompareOnlyAddsMarksInsideItsWindowRow.holds Try.pinned (OpenSpec.ofChange fnCompareOnlyAddsMarksInsideItsWindowSpec)

/-- ITS FALSE NEIGHBOUR: 'it returns false'. Refute it at one input. -/
def fnCompareOnlyAddsMarksInsideItsWindowWrong : ChangeSpec := { name := "fnCompareOnlyAddsMarksInsideItsWindow", fn := fun _ => fun
  | [d1, d2, d3, d4, d5, d6, d7, d8] => { results := [.lit (.bool false)], args := [d1, d2, d3, d4, d5, d6, d7, d8] }
  | _ => none }
def FnCompareOnlyAddsMarksInsideItsWindowWrongFalsely : Prop := fnCompareOnlyAddsMarksInsideItsWindowRow.holds Try.pinned (OpenSpec.ofChange fnCompareOnlyAddsMarksInsideItsWindowWrong)

/-- 'zzlaws_internal_diff_b1.FnFurthestIsTheFurthestPointOneEditFromTheFrontier': WHATEVER THE INPUT: true; the input reads as it did. -/
def fnFurthestIsTheFurthestPointOneEditFromTheFrontierSpec : ChangeSpec := { name := "fnFurthestIsTheFurthestPointOneEditFromTheFrontier", fn := fun _ => fun
  | [d1, d2, d3, d4, d5] => { results := [.lit (.bool true)], args := [d1, d2, d3, d4, d5] }
  | _ => none }
def fnFurthestIsTheFurthestPointOneEditFromTheFrontierRow : OpenClaim := { program := "qxb6600706a", sum := "9b54d2184e73e409772fa6106fa1e10ca2160fa648915e71d2148a38e8f18e21", func := "example.com/tablewright/tablewright/zzlaws_internal_diff_b1.FnFurthestIsTheFurthestPointOneEditFromTheFrontier", spec := "fnFurthestIsTheFurthestPointOneEditFromTheFrontier", apart := false }
def FnFurthestIsTheFurthestPointOneEditFromTheFrontierSaid : Prop := fnFurthestIsTheFurthestPointOneEditFromTheFrontierRow.holds Try.pinned (OpenSpec.ofChange fnFurthestIsTheFurthestPointOneEditFromTheFrontierSpec)

/-- ITS FALSE NEIGHBOUR: 'it returns false'. Refute it at one input. -/
def fnFurthestIsTheFurthestPointOneEditFromTheFrontierWrong : ChangeSpec := { name := "fnFurthestIsTheFurthestPointOneEditFromTheFrontier", fn := fun _ => fun
  | [d1, d2, d3, d4, d5] => { results := [.lit (.bool false)], args := [d1, d2, d3, d4, d5] }
  | _ => none }
def FnFurthestIsTheFurthestPointOneEditFromTheFrontierWrongFalsely : Prop := fnFurthestIsTheFurthestPointOneEditFromTheFrontierRow.holds Try.pinned (OpenSpec.ofChange fnFurthestIsTheFurthestPointOneEditFromTheFrontierWrong)

/-- 'zzlaws_internal_diff_b1.FnFurthestKeepsTheFrontierInsideTheGrid': WHATEVER THE INPUT: true; the input reads as it did. -/
def fnFurthestKeepsTheFrontierInsideTheGridSpec : ChangeSpec := { name := "fnFurthestKeepsTheFrontierInsideTheGrid", fn := fun _ => fun
  | [d1, d2, d3, d4, d5] => { results := [.lit (.bool true)], args := [d1, d2, d3, d4, d5] }
  | _ => none }
def fnFurthestKeepsTheFrontierInsideTheGridRow : OpenClaim := { program := "qxb6600706a", sum := "9b54d2184e73e409772fa6106fa1e10ca2160fa648915e71d2148a38e8f18e21", func := "example.com/tablewright/tablewright/zzlaws_internal_diff_b1.FnFurthestKeepsTheFrontierInsideTheGrid", spec := "fnFurthestKeepsTheFrontierInsideTheGrid", apart := false }
def FnFurthestKeepsTheFrontierInsideTheGridSaid : Prop := fnFurthestKeepsTheFrontierInsideTheGridRow.holds Try.pinned (OpenSpec.ofChange fnFurthestKeepsTheFrontierInsideTheGridSpec)

/-- ITS FALSE NEIGHBOUR: 'it returns false'. Refute it at one input. -/
def fnFurthestKeepsTheFrontierInsideTheGridWrong : ChangeSpec := { name := "fnFurthestKeepsTheFrontierInsideTheGrid", fn := fun _ => fun
  | [d1, d2, d3, d4, d5] => { results := [.lit (.bool false)], args := [d1, d2, d3, d4, d5] }
  | _ => none }
def FnFurthestKeepsTheFrontierInsideTheGridWrongFalsely : Prop := fnFurthestKeepsTheFrontierInsideTheGridRow.holds Try.pinned (OpenSpec.ofChange fnFurthestKeepsTheFrontierInsideTheGridWrong)

end Rows
end Go.Proofs.Qxb6600706a
