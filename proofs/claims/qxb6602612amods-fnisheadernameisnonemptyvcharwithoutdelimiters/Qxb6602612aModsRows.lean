/-
  No cell of these rows narrows 'for every input' (looked for: loops, veiled, ifaces, maps, wideKeys, modest, calm, conditions, laid).
  DERIVED. THE GIVEN ROWS OF THIS SEAT. 5 by the template 'for every input the law returns true; each argument reads behind the call as it read before'; 0 by the template 'total and deterministic' (their statements: Qxb6602612aModsTotals.lean).
  GIVEN WITH THE SEED: the statements are not yours to turn. If you find one false, say at which input.
  Laid BY PROGRAM, IN A SANDBOX (cutbox-rows.mjs): the forced cells as the released guide's own fill.sh prints them over the translation 379dfaecdd2bbf7b… (all of the seat's roots in one cut). By AI agents, Wed Nov 11 2026. No macro, syntax, notation, axiom, sorry.
-/
import Derived.Test.Qxb6602612aModsChecked
import GoSem.Claim
import GoSem.ClaimJoined
import GoSem.ClaimMapViews
import Derived.JoinedTies
import Derived.KernelRfl
namespace Go.Proofs.Qxb6602612aMods
/- THE CELL 'sum', in the pinned program and in every row, IS THE sha256 OF THE DUMP (.gsa) THAT Qxb6602612aModsProg.lean LOADS. Nothing in Lean hashes anything: it is a label: what it is worth is what the hold of that sum in a sandbox is worth. -/
noncomputable def Trym.pinned : Pinned := { name := "qxb6602612amods", sum := "379dfaecdd2bbf7bcfaef20c4abfd9ef072c7a55db131baa8fc8183f2759bb57", checked := Trym.checked }
namespace Rows
def none {H : Type} : Left H := { results := [], args := [] }

/-- 'zzlaws_root_b1.FnIsHeaderNameIsNonEmptyVCHARWithoutDelimiters': WHATEVER THE INPUT: true; the input reads as it did. -/
def fnIsHeaderNameIsNonEmptyVCHARWithoutDelimitersSpec : ChangeSpec := { name := "fnIsHeaderNameIsNonEmptyVCHARWithoutDelimiters", fn := fun _ => fun
  | [d] => { results := [.lit (.bool true)], args := [d] }
  | _ => none }
def fnIsHeaderNameIsNonEmptyVCHARWithoutDelimitersRow : OpenClaim := { program := "qxb6602612amods", sum := "379dfaecdd2bbf7bcfaef20c4abfd9ef072c7a55db131baa8fc8183f2759bb57", func := "example.com/imbuto/imbuto/zzlaws_root_b1.FnIsHeaderNameIsNonEmptyVCHARWithoutDelimiters", spec := "fnIsHeaderNameIsNonEmptyVCHARWithoutDelimiters", inPlace := ["internal/bytealg.IndexByteString"], make := .lifted ["publicsums"], apart := false }
def FnIsHeaderNameIsNonEmptyVCHARWithoutDelimitersSaid : Prop := fnIsHeaderNameIsNonEmptyVCHARWithoutDelimitersRow.holds Trym.pinned (OpenSpec.ofChange fnIsHeaderNameIsNonEmptyVCHARWithoutDelimitersSpec)

/-- ITS FALSE NEIGHBOUR: 'it returns false'. Refute it at one input. -/
def fnIsHeaderNameIsNonEmptyVCHARWithoutDelimitersWrong : ChangeSpec := { name := "fnIsHeaderNameIsNonEmptyVCHARWithoutDelimiters", fn := fun _ => fun
  | [d] => { results := [.lit (.bool false)], args := [d] }
  | _ => none }
def FnIsHeaderNameIsNonEmptyVCHARWithoutDelimitersWrongFalsely : Prop := fnIsHeaderNameIsNonEmptyVCHARWithoutDelimitersRow.holds Trym.pinned (OpenSpec.ofChange fnIsHeaderNameIsNonEmptyVCHARWithoutDelimitersWrong)

/-- 'zzlaws_root_b1.FnIsHeaderNameOfConcatenation': WHATEVER THE INPUT: true; the input reads as it did. -/
def fnIsHeaderNameOfConcatenationSpec : ChangeSpec := { name := "fnIsHeaderNameOfConcatenation", fn := fun _ => fun
  | [d1, d2] => { results := [.lit (.bool true)], args := [d1, d2] }
  | _ => none }
def fnIsHeaderNameOfConcatenationRow : OpenClaim := { program := "qxb6602612amods", sum := "379dfaecdd2bbf7bcfaef20c4abfd9ef072c7a55db131baa8fc8183f2759bb57", func := "example.com/imbuto/imbuto/zzlaws_root_b1.FnIsHeaderNameOfConcatenation", spec := "fnIsHeaderNameOfConcatenation", inPlace := ["internal/bytealg.IndexByteString"], make := .lifted ["publicsums"], apart := false }
def FnIsHeaderNameOfConcatenationSaid : Prop := fnIsHeaderNameOfConcatenationRow.holds Trym.pinned (OpenSpec.ofChange fnIsHeaderNameOfConcatenationSpec)

/-- ITS FALSE NEIGHBOUR: 'it returns false'. Refute it at one input. -/
def fnIsHeaderNameOfConcatenationWrong : ChangeSpec := { name := "fnIsHeaderNameOfConcatenation", fn := fun _ => fun
  | [d1, d2] => { results := [.lit (.bool false)], args := [d1, d2] }
  | _ => none }
def FnIsHeaderNameOfConcatenationWrongFalsely : Prop := fnIsHeaderNameOfConcatenationRow.holds Trym.pinned (OpenSpec.ofChange fnIsHeaderNameOfConcatenationWrong)

/-- 'zzlaws_root_b1.FnIsHeaderNameIgnoresASCIICase': WHATEVER THE INPUT: true; the input reads as it did. -/
def fnIsHeaderNameIgnoresASCIICaseSpec : ChangeSpec := { name := "fnIsHeaderNameIgnoresASCIICase", fn := fun _ => fun
  | [d] => { results := [.lit (.bool true)], args := [d] }
  | _ => none }
def fnIsHeaderNameIgnoresASCIICaseRow : OpenClaim := { program := "qxb6602612amods", sum := "379dfaecdd2bbf7bcfaef20c4abfd9ef072c7a55db131baa8fc8183f2759bb57", func := "example.com/imbuto/imbuto/zzlaws_root_b1.FnIsHeaderNameIgnoresASCIICase", spec := "fnIsHeaderNameIgnoresASCIICase", inPlace := ["internal/bytealg.IndexByteString"], make := .lifted ["publicsums"], apart := false }
def FnIsHeaderNameIgnoresASCIICaseSaid : Prop := fnIsHeaderNameIgnoresASCIICaseRow.holds Trym.pinned (OpenSpec.ofChange fnIsHeaderNameIgnoresASCIICaseSpec)

/-- ITS FALSE NEIGHBOUR: 'it returns false'. Refute it at one input. -/
def fnIsHeaderNameIgnoresASCIICaseWrong : ChangeSpec := { name := "fnIsHeaderNameIgnoresASCIICase", fn := fun _ => fun
  | [d] => { results := [.lit (.bool false)], args := [d] }
  | _ => none }
def FnIsHeaderNameIgnoresASCIICaseWrongFalsely : Prop := fnIsHeaderNameIgnoresASCIICaseRow.holds Trym.pinned (OpenSpec.ofChange fnIsHeaderNameIgnoresASCIICaseWrong)

/-- 'zzlaws_root_b1.FnRefillMonotoneInElapsed': WHATEVER THE INPUT: true; the input reads as it did. -/
def fnRefillMonotoneInElapsedSpec : ChangeSpec := { name := "fnRefillMonotoneInElapsed", fn := fun _ => fun
  | [d1, d2, d3, d4, d5] => { results := [.lit (.bool true)], args := [d1, d2, d3, d4, d5] }
  | _ => none }
def fnRefillMonotoneInElapsedRow : OpenClaim := { program := "qxb6602612amods", sum := "379dfaecdd2bbf7bcfaef20c4abfd9ef072c7a55db131baa8fc8183f2759bb57", func := "example.com/imbuto/imbuto/zzlaws_root_b1.FnRefillMonotoneInElapsed", spec := "fnRefillMonotoneInElapsed", make := .lifted ["publicsums"], apart := false }
def FnRefillMonotoneInElapsedSaid : Prop := fnRefillMonotoneInElapsedRow.holds Trym.pinned (OpenSpec.ofChange fnRefillMonotoneInElapsedSpec)

/-- ITS FALSE NEIGHBOUR: 'it returns false'. Refute it at one input. -/
def fnRefillMonotoneInElapsedWrong : ChangeSpec := { name := "fnRefillMonotoneInElapsed", fn := fun _ => fun
  | [d1, d2, d3, d4, d5] => { results := [.lit (.bool false)], args := [d1, d2, d3, d4, d5] }
  | _ => none }
def FnRefillMonotoneInElapsedWrongFalsely : Prop := fnRefillMonotoneInElapsedRow.holds Trym.pinned (OpenSpec.ofChange fnRefillMonotoneInElapsedWrong)

/-- 'zzlaws_root_b1.FnRefillStaysWithinBucket': WHATEVER THE INPUT: true; the input reads as it did. -/
def fnRefillStaysWithinBucketSpec : ChangeSpec := { name := "fnRefillStaysWithinBucket", fn := fun _ => fun
  | [d1, d2, d3, d4] => { results := [.lit (.bool true)], args := [d1, d2, d3, d4] }
  | _ => none }
def fnRefillStaysWithinBucketRow : OpenClaim := { program := "qxb6602612amods", sum := "379dfaecdd2bbf7bcfaef20c4abfd9ef072c7a55db131baa8fc8183f2759bb57", func := "example.com/imbuto/imbuto/zzlaws_root_b1.FnRefillStaysWithinBucket", spec := "fnRefillStaysWithinBucket", make := .lifted ["publicsums"], apart := false }
def FnRefillStaysWithinBucketSaid : Prop := fnRefillStaysWithinBucketRow.holds Trym.pinned (OpenSpec.ofChange fnRefillStaysWithinBucketSpec)

/-- ITS FALSE NEIGHBOUR: 'it returns false'. Refute it at one input. -/
def fnRefillStaysWithinBucketWrong : ChangeSpec := { name := "fnRefillStaysWithinBucket", fn := fun _ => fun
  | [d1, d2, d3, d4] => { results := [.lit (.bool false)], args := [d1, d2, d3, d4] }
  | _ => none }
def FnRefillStaysWithinBucketWrongFalsely : Prop := fnRefillStaysWithinBucketRow.holds Trym.pinned (OpenSpec.ofChange fnRefillStaysWithinBucketWrong)

end Rows
end Go.Proofs.Qxb6602612aMods
