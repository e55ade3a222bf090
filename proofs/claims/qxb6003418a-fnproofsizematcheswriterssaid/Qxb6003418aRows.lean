/-
  No cell of these rows narrows 'for every input' (looked for: loops, veiled, ifaces, maps, wideKeys, modest, calm, conditions, laid).
  DERIVED. THE GIVEN ROWS OF THIS SEAT. 7 by the template 'for every input the law returns true; each argument reads behind the call as it read before'; 0 by the template 'total and deterministic' (their statements: Qxb6003418aTotals.lean).
  GIVEN WITH THE SEED: the statements are not yours to turn. If you find one false, say at which input.
  Laid BY PROGRAM, IN A SANDBOX (cutbox-rows.mjs): the forced cells as the released guide's own fill.sh prints them over the translation 18280ff568558fb5… (all of the seat's roots in one cut). By AI agents, Wed Nov 11 2026. No macro, syntax, notation, axiom, sorry.
-/
import Derived.Test.Qxb6003418aChecked
import GoSem.Claim
import GoSem.ClaimJoined
import GoSem.ClaimMapViews
import Derived.JoinedTies
import Derived.KernelRfl
namespace Go.Proofs.Qxb6003418a
/- THE CELL 'sum', in the pinned program and in every row, IS THE sha256 OF THE DUMP (.gsa) THAT Qxb6003418aProg.lean LOADS. Nothing in Lean hashes anything: it is a label: what it is worth is what the hold of that sum in a sandbox is worth. -/
noncomputable def Try.pinned : Pinned := { name := "qxb6003418a", sum := "18280ff568558fb5c273e0e7edbb3d16c7915518c58799fc9b96941f509b9fd2", checked := Try.checked }
namespace Rows
def none {H : Type} : Left H := { results := [], args := [] }

/-- 'zzlaws_root_g2.FnJoinConcatenatesTokens': WHATEVER THE INPUT: true; the input reads as it did. -/
def fnJoinConcatenatesTokensSpec : ChangeSpec := { name := "fnJoinConcatenatesTokens", fn := fun _ => fun
  | [d1, d2, d3, d4] => { results := [.lit (.bool true)], args := [d1, d2, d3, d4] }
  | _ => none }
def fnJoinConcatenatesTokensRow : OpenClaim := { program := "qxb6003418a", sum := "18280ff568558fb5c273e0e7edbb3d16c7915518c58799fc9b96941f509b9fd2", func := "example.com/proofstore/proofstore/zzlaws_root_g2.FnJoinConcatenatesTokens", spec := "fnJoinConcatenatesTokens", apart := false }
def FnJoinConcatenatesTokensSaid : Prop := fnJoinConcatenatesTokensRow.holds Try.pinned (OpenSpec.ofChange fnJoinConcatenatesTokensSpec)

/-- ITS FALSE NEIGHBOUR: 'it returns false'. Refute it at one input. -/
def fnJoinConcatenatesTokensWrong : ChangeSpec := { name := "fnJoinConcatenatesTokens", fn := fun _ => fun
  | [d1, d2, d3, d4] => { results := [.lit (.bool false)], args := [d1, d2, d3, d4] }
  | _ => none }
def FnJoinConcatenatesTokensWrongFalsely : Prop := fnJoinConcatenatesTokensRow.holds Try.pinned (OpenSpec.ofChange fnJoinConcatenatesTokensWrong)

/-- 'zzlaws_root_g2.FnComparePathsIsTokenOrder': WHATEVER THE INPUT: true; the input reads as it did. -/
def fnComparePathsIsTokenOrderSpec : ChangeSpec := { name := "fnComparePathsIsTokenOrder", fn := fun _ => fun
  | [d1, d2, d3, d4] => { results := [.lit (.bool true)], args := [d1, d2, d3, d4] }
  | _ => none }
def fnComparePathsIsTokenOrderRow : OpenClaim := { program := "qxb6003418a", sum := "18280ff568558fb5c273e0e7edbb3d16c7915518c58799fc9b96941f509b9fd2", func := "example.com/proofstore/proofstore/zzlaws_root_g2.FnComparePathsIsTokenOrder", spec := "fnComparePathsIsTokenOrder", apart := false }
def FnComparePathsIsTokenOrderSaid : Prop := fnComparePathsIsTokenOrderRow.holds Try.pinned (OpenSpec.ofChange fnComparePathsIsTokenOrderSpec)

/-- ITS FALSE NEIGHBOUR: 'it returns false'. Refute it at one input. -/
def fnComparePathsIsTokenOrderWrong : ChangeSpec := { name := "fnComparePathsIsTokenOrder", fn := fun _ => fun
  | [d1, d2, d3, d4] => { results := [.lit (.bool false)], args := [d1, d2, d3, d4] }
  | _ => none }
def FnComparePathsIsTokenOrderWrongFalsely : Prop := fnComparePathsIsTokenOrderRow.holds Try.pinned (OpenSpec.ofChange fnComparePathsIsTokenOrderWrong)

/-- 'zzlaws_root_g2.FnComparePathsIgnoresCommonPrefix': WHATEVER THE INPUT: true; the input reads as it did. -/
def fnComparePathsIgnoresCommonPrefixSpec : ChangeSpec := { name := "fnComparePathsIgnoresCommonPrefix", fn := fun _ => fun
  | [d1, d2, d3, d4, d5, d6] => { results := [.lit (.bool true)], args := [d1, d2, d3, d4, d5, d6] }
  | _ => none }
def fnComparePathsIgnoresCommonPrefixRow : OpenClaim := { program := "qxb6003418a", sum := "18280ff568558fb5c273e0e7edbb3d16c7915518c58799fc9b96941f509b9fd2", func := "example.com/proofstore/proofstore/zzlaws_root_g2.FnComparePathsIgnoresCommonPrefix", spec := "fnComparePathsIgnoresCommonPrefix", apart := false }
def FnComparePathsIgnoresCommonPrefixSaid : Prop := fnComparePathsIgnoresCommonPrefixRow.holds Try.pinned (OpenSpec.ofChange fnComparePathsIgnoresCommonPrefixSpec)

/-- ITS FALSE NEIGHBOUR: 'it returns false'. Refute it at one input. -/
def fnComparePathsIgnoresCommonPrefixWrong : ChangeSpec := { name := "fnComparePathsIgnoresCommonPrefix", fn := fun _ => fun
  | [d1, d2, d3, d4, d5, d6] => { results := [.lit (.bool false)], args := [d1, d2, d3, d4, d5, d6] }
  | _ => none }
def FnComparePathsIgnoresCommonPrefixWrongFalsely : Prop := fnComparePathsIgnoresCommonPrefixRow.holds Try.pinned (OpenSpec.ofChange fnComparePathsIgnoresCommonPrefixWrong)

/-- 'zzlaws_root_g2.FnAppendTokensDecodes': WHATEVER THE INPUT: true; the input reads as it did. -/
def fnAppendTokensDecodesSpec : ChangeSpec := { name := "fnAppendTokensDecodes", fn := fun _ => fun
  | [d1, d2, d3, d4] => { results := [.lit (.bool true)], args := [d1, d2, d3, d4] }
  | _ => none }
def fnAppendTokensDecodesRow : OpenClaim := { program := "qxb6003418a", sum := "18280ff568558fb5c273e0e7edbb3d16c7915518c58799fc9b96941f509b9fd2", func := "example.com/proofstore/proofstore/zzlaws_root_g2.FnAppendTokensDecodes", spec := "fnAppendTokensDecodes", apart := false }
def FnAppendTokensDecodesSaid : Prop := fnAppendTokensDecodesRow.holds Try.pinned (OpenSpec.ofChange fnAppendTokensDecodesSpec)

/-- ITS FALSE NEIGHBOUR: 'it returns false'. Refute it at one input. -/
def fnAppendTokensDecodesWrong : ChangeSpec := { name := "fnAppendTokensDecodes", fn := fun _ => fun
  | [d1, d2, d3, d4] => { results := [.lit (.bool false)], args := [d1, d2, d3, d4] }
  | _ => none }
def FnAppendTokensDecodesWrongFalsely : Prop := fnAppendTokensDecodesRow.holds Try.pinned (OpenSpec.ofChange fnAppendTokensDecodesWrong)

/-- 'zzlaws_root_g2.FnAppendValueDecodesAndMatchesValueSize': WHATEVER THE INPUT: true; the input reads as it did. -/
def fnAppendValueDecodesAndMatchesValueSizeSpec : ChangeSpec := { name := "fnAppendValueDecodesAndMatchesValueSize", fn := fun _ => fun
  | [d1, d2, d3] => { results := [.lit (.bool true)], args := [d1, d2, d3] }
  | _ => none }
def fnAppendValueDecodesAndMatchesValueSizeRow : OpenClaim := { program := "qxb6003418a", sum := "18280ff568558fb5c273e0e7edbb3d16c7915518c58799fc9b96941f509b9fd2", func := "example.com/proofstore/proofstore/zzlaws_root_g2.FnAppendValueDecodesAndMatchesValueSize", spec := "fnAppendValueDecodesAndMatchesValueSize", apart := false }
def FnAppendValueDecodesAndMatchesValueSizeSaid : Prop := fnAppendValueDecodesAndMatchesValueSizeRow.holds Try.pinned (OpenSpec.ofChange fnAppendValueDecodesAndMatchesValueSizeSpec)

/-- ITS FALSE NEIGHBOUR: 'it returns false'. Refute it at one input. -/
def fnAppendValueDecodesAndMatchesValueSizeWrong : ChangeSpec := { name := "fnAppendValueDecodesAndMatchesValueSize", fn := fun _ => fun
  | [d1, d2, d3] => { results := [.lit (.bool false)], args := [d1, d2, d3] }
  | _ => none }
def FnAppendValueDecodesAndMatchesValueSizeWrongFalsely : Prop := fnAppendValueDecodesAndMatchesValueSizeRow.holds Try.pinned (OpenSpec.ofChange fnAppendValueDecodesAndMatchesValueSizeWrong)

/-- 'zzlaws_root_g2.FnProofSizeMatchesWriters': WHATEVER THE INPUT: true; the input reads as it did. -/
def fnProofSizeMatchesWritersSpec : ChangeSpec := { name := "fnProofSizeMatchesWriters", fn := fun _ => fun
  | [d1, d2, d3, d4, d5] => { results := [.lit (.bool true)], args := [d1, d2, d3, d4, d5] }
  | _ => none }
def fnProofSizeMatchesWritersRow : OpenClaim := { program := "qxb6003418a", sum := "18280ff568558fb5c273e0e7edbb3d16c7915518c58799fc9b96941f509b9fd2", func := "example.com/proofstore/proofstore/zzlaws_root_g2.FnProofSizeMatchesWriters", spec := "fnProofSizeMatchesWriters", apart := false }
def FnProofSizeMatchesWritersSaid : Prop := fnProofSizeMatchesWritersRow.holds Try.pinned (OpenSpec.ofChange fnProofSizeMatchesWritersSpec)

/-- ITS FALSE NEIGHBOUR: 'it returns false'. Refute it at one input. -/
def fnProofSizeMatchesWritersWrong : ChangeSpec := { name := "fnProofSizeMatchesWriters", fn := fun _ => fun
  | [d1, d2, d3, d4, d5] => { results := [.lit (.bool false)], args := [d1, d2, d3, d4, d5] }
  | _ => none }
def FnProofSizeMatchesWritersWrongFalsely : Prop := fnProofSizeMatchesWritersRow.holds Try.pinned (OpenSpec.ofChange fnProofSizeMatchesWritersWrong)

/-- 'zzlaws_root_g2.FnChildOffsetsShiftAndFilter': WHATEVER THE INPUT: true; the input reads as it did. -/
def fnChildOffsetsShiftAndFilterSpec : ChangeSpec := { name := "fnChildOffsetsShiftAndFilter", fn := fun _ => fun
  | [d1, d2, d3, d4, d5, d6, d7] => { results := [.lit (.bool true)], args := [d1, d2, d3, d4, d5, d6, d7] }
  | _ => none }
def fnChildOffsetsShiftAndFilterRow : OpenClaim := { program := "qxb6003418a", sum := "18280ff568558fb5c273e0e7edbb3d16c7915518c58799fc9b96941f509b9fd2", func := "example.com/proofstore/proofstore/zzlaws_root_g2.FnChildOffsetsShiftAndFilter", spec := "fnChildOffsetsShiftAndFilter", apart := false }
def FnChildOffsetsShiftAndFilterSaid : Prop := fnChildOffsetsShiftAndFilterRow.holds Try.pinned (OpenSpec.ofChange fnChildOffsetsShiftAndFilterSpec)

/-- ITS FALSE NEIGHBOUR: 'it returns false'. Refute it at one input. -/
def fnChildOffsetsShiftAndFilterWrong : ChangeSpec := { name := "fnChildOffsetsShiftAndFilter", fn := fun _ => fun
  | [d1, d2, d3, d4, d5, d6, d7] => { results := [.lit (.bool false)], args := [d1, d2, d3, d4, d5, d6, d7] }
  | _ => none }
def FnChildOffsetsShiftAndFilterWrongFalsely : Prop := fnChildOffsetsShiftAndFilterRow.holds Try.pinned (OpenSpec.ofChange fnChildOffsetsShiftAndFilterWrong)

end Rows
end Go.Proofs.Qxb6003418a
