/-
  No cell of these rows narrows 'for every input' (looked for: loops, veiled, ifaces, maps, wideKeys, modest, calm, conditions, laid).
  DERIVED. THE GIVEN ROWS OF THIS SEAT. 8 by the template 'for every input the law returns true; each argument reads behind the call as it read before'; 0 by the template 'total and deterministic' (their statements: Qxb6600919aModsTotals.lean).
  GIVEN WITH THE SEED: the statements are not yours to turn. If you find one false, say at which input.
  Laid BY PROGRAM, IN A SANDBOX (cutbox-rows.mjs): the forced cells as the released guide's own fill.sh prints them over the translation 7d4b9be5f26d412f… (all of the seat's roots in one cut). By AI agents, Wed Nov 11 2026. No macro, syntax, notation, axiom, sorry.
-/
import Derived.Test.Qxb6600919aModsChecked
import GoSem.Claim
import GoSem.ClaimJoined
import GoSem.ClaimMapViews
import Derived.JoinedTies
import Derived.KernelRfl
namespace Go.Proofs.Qxb6600919aMods
/- THE CELL 'sum', in the pinned program and in every row, IS THE sha256 OF THE DUMP (.gsa) THAT Qxb6600919aModsProg.lean LOADS. Nothing in Lean hashes anything: it is a label: what it is worth is what the hold of that sum in a sandbox is worth. -/
noncomputable def Trym.pinned : Pinned := { name := "qxb6600919amods", sum := "7d4b9be5f26d412facdefd5891d55da90e59692bb0252d0690b0ee98867e3d5c", checked := Trym.checked }
namespace Rows
def none {H : Type} : Left H := { results := [], args := [] }

/-- 'zzlaws_root_b1.FnFoldMatchesPairModel': WHATEVER THE INPUT: true; the input reads as it did. -/
def fnFoldMatchesPairModelSpec : ChangeSpec := { name := "fnFoldMatchesPairModel", fn := fun _ => fun
  | [d1, d2] => { results := [.lit (.bool true)], args := [d1, d2] }
  | _ => none }
def fnFoldMatchesPairModelRow : OpenClaim := { program := "qxb6600919amods", sum := "7d4b9be5f26d412facdefd5891d55da90e59692bb0252d0690b0ee98867e3d5c", func := "example.com/sumtree/sumtree/zzlaws_root_b1.FnFoldMatchesPairModel", spec := "fnFoldMatchesPairModel", inPlace := ["internal/bytealg.IndexByte"], make := .lifted ["publicsums"], apart := false }
def FnFoldMatchesPairModelSaid : Prop := fnFoldMatchesPairModelRow.holds Trym.pinned (OpenSpec.ofChange fnFoldMatchesPairModelSpec)

/-- ITS FALSE NEIGHBOUR: 'it returns false'. Refute it at one input. -/
def fnFoldMatchesPairModelWrong : ChangeSpec := { name := "fnFoldMatchesPairModel", fn := fun _ => fun
  | [d1, d2] => { results := [.lit (.bool false)], args := [d1, d2] }
  | _ => none }
def FnFoldMatchesPairModelWrongFalsely : Prop := fnFoldMatchesPairModelRow.holds Trym.pinned (OpenSpec.ofChange fnFoldMatchesPairModelWrong)

/-- 'zzlaws_root_b1.FnFoldSplitAnywhere': WHATEVER THE INPUT: true; the input reads as it did. -/
def fnFoldSplitAnywhereSpec : ChangeSpec := { name := "fnFoldSplitAnywhere", fn := fun _ => fun
  | [d1, d2, d3] => { results := [.lit (.bool true)], args := [d1, d2, d3] }
  | _ => none }
def fnFoldSplitAnywhereRow : OpenClaim := { program := "qxb6600919amods", sum := "7d4b9be5f26d412facdefd5891d55da90e59692bb0252d0690b0ee98867e3d5c", func := "example.com/sumtree/sumtree/zzlaws_root_b1.FnFoldSplitAnywhere", spec := "fnFoldSplitAnywhere", inPlace := ["internal/bytealg.IndexByte"], make := .lifted ["publicsums"], apart := false }
def FnFoldSplitAnywhereSaid : Prop := fnFoldSplitAnywhereRow.holds Trym.pinned (OpenSpec.ofChange fnFoldSplitAnywhereSpec)

/-- ITS FALSE NEIGHBOUR: 'it returns false'. Refute it at one input. -/
def fnFoldSplitAnywhereWrong : ChangeSpec := { name := "fnFoldSplitAnywhere", fn := fun _ => fun
  | [d1, d2, d3] => { results := [.lit (.bool false)], args := [d1, d2, d3] }
  | _ => none }
def FnFoldSplitAnywhereWrongFalsely : Prop := fnFoldSplitAnywhereRow.holds Trym.pinned (OpenSpec.ofChange fnFoldSplitAnywhereWrong)

/-- 'zzlaws_root_b1.FnFoldNoCRBoundedIdempotent': WHATEVER THE INPUT: true; the input reads as it did. -/
def fnFoldNoCRBoundedIdempotentSpec : ChangeSpec := { name := "fnFoldNoCRBoundedIdempotent", fn := fun _ => fun
  | [d1, d2] => { results := [.lit (.bool true)], args := [d1, d2] }
  | _ => none }
def fnFoldNoCRBoundedIdempotentRow : OpenClaim := { program := "qxb6600919amods", sum := "7d4b9be5f26d412facdefd5891d55da90e59692bb0252d0690b0ee98867e3d5c", func := "example.com/sumtree/sumtree/zzlaws_root_b1.FnFoldNoCRBoundedIdempotent", spec := "fnFoldNoCRBoundedIdempotent", inPlace := ["internal/bytealg.IndexByte"], make := .lifted ["publicsums"], apart := false }
def FnFoldNoCRBoundedIdempotentSaid : Prop := fnFoldNoCRBoundedIdempotentRow.holds Trym.pinned (OpenSpec.ofChange fnFoldNoCRBoundedIdempotentSpec)

/-- ITS FALSE NEIGHBOUR: 'it returns false'. Refute it at one input. -/
def fnFoldNoCRBoundedIdempotentWrong : ChangeSpec := { name := "fnFoldNoCRBoundedIdempotent", fn := fun _ => fun
  | [d1, d2] => { results := [.lit (.bool false)], args := [d1, d2] }
  | _ => none }
def FnFoldNoCRBoundedIdempotentWrongFalsely : Prop := fnFoldNoCRBoundedIdempotentRow.holds Trym.pinned (OpenSpec.ofChange fnFoldNoCRBoundedIdempotentWrong)

/-- 'zzlaws_root_b1.FnAppendHeaderDecodesShortest': WHATEVER THE INPUT: true; the input reads as it did. -/
def fnAppendHeaderDecodesShortestSpec : ChangeSpec := { name := "fnAppendHeaderDecodesShortest", fn := fun _ => fun
  | [d1, d2, d3] => { results := [.lit (.bool true)], args := [d1, d2, d3] }
  | _ => none }
def fnAppendHeaderDecodesShortestRow : OpenClaim := { program := "qxb6600919amods", sum := "7d4b9be5f26d412facdefd5891d55da90e59692bb0252d0690b0ee98867e3d5c", func := "example.com/sumtree/sumtree/zzlaws_root_b1.FnAppendHeaderDecodesShortest", spec := "fnAppendHeaderDecodesShortest", make := .lifted ["publicsums"], apart := false }
def FnAppendHeaderDecodesShortestSaid : Prop := fnAppendHeaderDecodesShortestRow.holds Trym.pinned (OpenSpec.ofChange fnAppendHeaderDecodesShortestSpec)

/-- ITS FALSE NEIGHBOUR: 'it returns false'. Refute it at one input. -/
def fnAppendHeaderDecodesShortestWrong : ChangeSpec := { name := "fnAppendHeaderDecodesShortest", fn := fun _ => fun
  | [d1, d2, d3] => { results := [.lit (.bool false)], args := [d1, d2, d3] }
  | _ => none }
def FnAppendHeaderDecodesShortestWrongFalsely : Prop := fnAppendHeaderDecodesShortestRow.holds Trym.pinned (OpenSpec.ofChange fnAppendHeaderDecodesShortestWrong)

/-- 'zzlaws_root_b1.FnAppendHeaderOrderPreserving': WHATEVER THE INPUT: true; the input reads as it did. -/
def fnAppendHeaderOrderPreservingSpec : ChangeSpec := { name := "fnAppendHeaderOrderPreserving", fn := fun _ => fun
  | [d1, d2, d3] => { results := [.lit (.bool true)], args := [d1, d2, d3] }
  | _ => none }
def fnAppendHeaderOrderPreservingRow : OpenClaim := { program := "qxb6600919amods", sum := "7d4b9be5f26d412facdefd5891d55da90e59692bb0252d0690b0ee98867e3d5c", func := "example.com/sumtree/sumtree/zzlaws_root_b1.FnAppendHeaderOrderPreserving", spec := "fnAppendHeaderOrderPreserving", make := .lifted ["publicsums"], apart := false }
def FnAppendHeaderOrderPreservingSaid : Prop := fnAppendHeaderOrderPreservingRow.holds Trym.pinned (OpenSpec.ofChange fnAppendHeaderOrderPreservingSpec)

/-- ITS FALSE NEIGHBOUR: 'it returns false'. Refute it at one input. -/
def fnAppendHeaderOrderPreservingWrong : ChangeSpec := { name := "fnAppendHeaderOrderPreserving", fn := fun _ => fun
  | [d1, d2, d3] => { results := [.lit (.bool false)], args := [d1, d2, d3] }
  | _ => none }
def FnAppendHeaderOrderPreservingWrongFalsely : Prop := fnAppendHeaderOrderPreservingRow.holds Trym.pinned (OpenSpec.ofChange fnAppendHeaderOrderPreservingWrong)

/-- 'zzlaws_root_b1.FnAppendIntegerDecodesMinimal': WHATEVER THE INPUT: true; the input reads as it did. -/
def fnAppendIntegerDecodesMinimalSpec : ChangeSpec := { name := "fnAppendIntegerDecodesMinimal", fn := fun _ => fun
  | [d1, d2] => { results := [.lit (.bool true)], args := [d1, d2] }
  | _ => none }
def fnAppendIntegerDecodesMinimalRow : OpenClaim := { program := "qxb6600919amods", sum := "7d4b9be5f26d412facdefd5891d55da90e59692bb0252d0690b0ee98867e3d5c", func := "example.com/sumtree/sumtree/zzlaws_root_b1.FnAppendIntegerDecodesMinimal", spec := "fnAppendIntegerDecodesMinimal", make := .lifted ["publicsums"], apart := false }
def FnAppendIntegerDecodesMinimalSaid : Prop := fnAppendIntegerDecodesMinimalRow.holds Trym.pinned (OpenSpec.ofChange fnAppendIntegerDecodesMinimalSpec)

/-- ITS FALSE NEIGHBOUR: 'it returns false'. Refute it at one input. -/
def fnAppendIntegerDecodesMinimalWrong : ChangeSpec := { name := "fnAppendIntegerDecodesMinimal", fn := fun _ => fun
  | [d1, d2] => { results := [.lit (.bool false)], args := [d1, d2] }
  | _ => none }
def FnAppendIntegerDecodesMinimalWrongFalsely : Prop := fnAppendIntegerDecodesMinimalRow.holds Trym.pinned (OpenSpec.ofChange fnAppendIntegerDecodesMinimalWrong)

/-- 'zzlaws_root_b1.FnAppendIntegerLengthByRange': WHATEVER THE INPUT: true; the input reads as it did. -/
def fnAppendIntegerLengthByRangeSpec : ChangeSpec := { name := "fnAppendIntegerLengthByRange", fn := fun _ => fun
  | [d] => { results := [.lit (.bool true)], args := [d] }
  | _ => none }
def fnAppendIntegerLengthByRangeRow : OpenClaim := { program := "qxb6600919amods", sum := "7d4b9be5f26d412facdefd5891d55da90e59692bb0252d0690b0ee98867e3d5c", func := "example.com/sumtree/sumtree/zzlaws_root_b1.FnAppendIntegerLengthByRange", spec := "fnAppendIntegerLengthByRange", make := .lifted ["publicsums"], apart := false }
def FnAppendIntegerLengthByRangeSaid : Prop := fnAppendIntegerLengthByRangeRow.holds Trym.pinned (OpenSpec.ofChange fnAppendIntegerLengthByRangeSpec)

/-- ITS FALSE NEIGHBOUR: 'it returns false'. Refute it at one input. -/
def fnAppendIntegerLengthByRangeWrong : ChangeSpec := { name := "fnAppendIntegerLengthByRange", fn := fun _ => fun
  | [d] => { results := [.lit (.bool false)], args := [d] }
  | _ => none }
def FnAppendIntegerLengthByRangeWrongFalsely : Prop := fnAppendIntegerLengthByRangeRow.holds Trym.pinned (OpenSpec.ofChange fnAppendIntegerLengthByRangeWrong)

/-- 'zzlaws_root_b1.FnAppendIntegerComplementSymmetry': WHATEVER THE INPUT: true; the input reads as it did. -/
def fnAppendIntegerComplementSymmetrySpec : ChangeSpec := { name := "fnAppendIntegerComplementSymmetry", fn := fun _ => fun
  | [d] => { results := [.lit (.bool true)], args := [d] }
  | _ => none }
def fnAppendIntegerComplementSymmetryRow : OpenClaim := { program := "qxb6600919amods", sum := "7d4b9be5f26d412facdefd5891d55da90e59692bb0252d0690b0ee98867e3d5c", func := "example.com/sumtree/sumtree/zzlaws_root_b1.FnAppendIntegerComplementSymmetry", spec := "fnAppendIntegerComplementSymmetry", make := .lifted ["publicsums"], apart := false }
def FnAppendIntegerComplementSymmetrySaid : Prop := fnAppendIntegerComplementSymmetryRow.holds Trym.pinned (OpenSpec.ofChange fnAppendIntegerComplementSymmetrySpec)

/-- ITS FALSE NEIGHBOUR: 'it returns false'. Refute it at one input. -/
def fnAppendIntegerComplementSymmetryWrong : ChangeSpec := { name := "fnAppendIntegerComplementSymmetry", fn := fun _ => fun
  | [d] => { results := [.lit (.bool false)], args := [d] }
  | _ => none }
def FnAppendIntegerComplementSymmetryWrongFalsely : Prop := fnAppendIntegerComplementSymmetryRow.holds Trym.pinned (OpenSpec.ofChange fnAppendIntegerComplementSymmetryWrong)

end Rows
end Go.Proofs.Qxb6600919aMods
