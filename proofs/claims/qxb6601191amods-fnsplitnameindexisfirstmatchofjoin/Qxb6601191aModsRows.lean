/-
  No cell of these rows narrows 'for every input' (looked for: loops, veiled, ifaces, maps, wideKeys, modest, calm, conditions, laid).
  DERIVED. THE GIVEN ROWS OF THIS SEAT. 3 by the template 'for every input the law returns true; each argument reads behind the call as it read before'; 0 by the template 'total and deterministic' (their statements: Qxb6601191aModsTotals.lean).
  GIVEN WITH THE SEED: the statements are not yours to turn. If you find one false, say at which input.
  Laid BY PROGRAM, IN A SANDBOX (cutbox-rows.mjs): the forced cells as the released guide's own fill.sh prints them over the translation ef563a77abddf10b… (all of the seat's roots in one cut). By AI agents, Wed Nov 11 2026. No macro, syntax, notation, axiom, sorry.
-/
import Derived.Test.Qxb6601191aModsChecked
import GoSem.Claim
import GoSem.ClaimJoined
import GoSem.ClaimMapViews
import Derived.JoinedTies
import Derived.KernelRfl
namespace Go.Proofs.Qxb6601191aMods
/- THE CELL 'sum', in the pinned program and in every row, IS THE sha256 OF THE DUMP (.gsa) THAT Qxb6601191aModsProg.lean LOADS. Nothing in Lean hashes anything: it is a label: what it is worth is what the hold of that sum in a sandbox is worth. -/
noncomputable def Trym.pinned : Pinned := { name := "qxb6601191amods", sum := "ef563a77abddf10b04dd6d9d66d3cc89587582fa6f197a92a5077c5c36d2a91a", checked := Trym.checked }
namespace Rows
def none {H : Type} : Left H := { results := [], args := [] }

/-- 'zzlaws_internal_route_b1.FnSplitNameIndexIsFirstMatchOfJoin': WHATEVER THE INPUT: true; the input reads as it did. -/
def fnSplitNameIndexIsFirstMatchOfJoinSpec : ChangeSpec := { name := "fnSplitNameIndexIsFirstMatchOfJoin", fn := fun _ => fun
  | [d1, d2, d3, d4] => { results := [.lit (.bool true)], args := [d1, d2, d3, d4] }
  | _ => none }
def fnSplitNameIndexIsFirstMatchOfJoinRow : OpenClaim := { program := "qxb6601191amods", sum := "ef563a77abddf10b04dd6d9d66d3cc89587582fa6f197a92a5077c5c36d2a91a", func := "example.com/libwell/libwell/zzlaws_internal_route_b1.FnSplitNameIndexIsFirstMatchOfJoin", spec := "fnSplitNameIndexIsFirstMatchOfJoin", inPlace := ["internal/bytealg.IndexByteString"], make := .lifted ["publicsums"], apart := false }
def FnSplitNameIndexIsFirstMatchOfJoinSaid : Prop := fnSplitNameIndexIsFirstMatchOfJoinRow.holds Trym.pinned (OpenSpec.ofChange fnSplitNameIndexIsFirstMatchOfJoinSpec)

/-- ITS FALSE NEIGHBOUR: 'it returns false'. Refute it at one input. -/
def fnSplitNameIndexIsFirstMatchOfJoinWrong : ChangeSpec := { name := "fnSplitNameIndexIsFirstMatchOfJoin", fn := fun _ => fun
  | [d1, d2, d3, d4] => { results := [.lit (.bool false)], args := [d1, d2, d3, d4] }
  | _ => none }
def FnSplitNameIndexIsFirstMatchOfJoinWrongFalsely : Prop := fnSplitNameIndexIsFirstMatchOfJoinRow.holds Trym.pinned (OpenSpec.ofChange fnSplitNameIndexIsFirstMatchOfJoinWrong)

/-- 'zzlaws_internal_route_b1.FnSplitNameIndexIgnoresSplitPoint': WHATEVER THE INPUT: true; the input reads as it did. -/
def fnSplitNameIndexIgnoresSplitPointSpec : ChangeSpec := { name := "fnSplitNameIndexIgnoresSplitPoint", fn := fun _ => fun
  | [d1, d2, d3, d4, d5] => { results := [.lit (.bool true)], args := [d1, d2, d3, d4, d5] }
  | _ => none }
def fnSplitNameIndexIgnoresSplitPointRow : OpenClaim := { program := "qxb6601191amods", sum := "ef563a77abddf10b04dd6d9d66d3cc89587582fa6f197a92a5077c5c36d2a91a", func := "example.com/libwell/libwell/zzlaws_internal_route_b1.FnSplitNameIndexIgnoresSplitPoint", spec := "fnSplitNameIndexIgnoresSplitPoint", inPlace := ["internal/bytealg.IndexByteString"], make := .lifted ["publicsums"], apart := false }
def FnSplitNameIndexIgnoresSplitPointSaid : Prop := fnSplitNameIndexIgnoresSplitPointRow.holds Trym.pinned (OpenSpec.ofChange fnSplitNameIndexIgnoresSplitPointSpec)

/-- ITS FALSE NEIGHBOUR: 'it returns false'. Refute it at one input. -/
def fnSplitNameIndexIgnoresSplitPointWrong : ChangeSpec := { name := "fnSplitNameIndexIgnoresSplitPoint", fn := fun _ => fun
  | [d1, d2, d3, d4, d5] => { results := [.lit (.bool false)], args := [d1, d2, d3, d4, d5] }
  | _ => none }
def FnSplitNameIndexIgnoresSplitPointWrongFalsely : Prop := fnSplitNameIndexIgnoresSplitPointRow.holds Trym.pinned (OpenSpec.ofChange fnSplitNameIndexIgnoresSplitPointWrong)

/-- 'zzlaws_internal_route_b1.FnSplitNameIndexLaterStartConsistent': WHATEVER THE INPUT: true; the input reads as it did. -/
def fnSplitNameIndexLaterStartConsistentSpec : ChangeSpec := { name := "fnSplitNameIndexLaterStartConsistent", fn := fun _ => fun
  | [d1, d2, d3, d4, d5] => { results := [.lit (.bool true)], args := [d1, d2, d3, d4, d5] }
  | _ => none }
def fnSplitNameIndexLaterStartConsistentRow : OpenClaim := { program := "qxb6601191amods", sum := "ef563a77abddf10b04dd6d9d66d3cc89587582fa6f197a92a5077c5c36d2a91a", func := "example.com/libwell/libwell/zzlaws_internal_route_b1.FnSplitNameIndexLaterStartConsistent", spec := "fnSplitNameIndexLaterStartConsistent", inPlace := ["internal/bytealg.IndexByteString"], make := .lifted ["publicsums"], apart := false }
def FnSplitNameIndexLaterStartConsistentSaid : Prop := fnSplitNameIndexLaterStartConsistentRow.holds Trym.pinned (OpenSpec.ofChange fnSplitNameIndexLaterStartConsistentSpec)

/-- ITS FALSE NEIGHBOUR: 'it returns false'. Refute it at one input. -/
def fnSplitNameIndexLaterStartConsistentWrong : ChangeSpec := { name := "fnSplitNameIndexLaterStartConsistent", fn := fun _ => fun
  | [d1, d2, d3, d4, d5] => { results := [.lit (.bool false)], args := [d1, d2, d3, d4, d5] }
  | _ => none }
def FnSplitNameIndexLaterStartConsistentWrongFalsely : Prop := fnSplitNameIndexLaterStartConsistentRow.holds Trym.pinned (OpenSpec.ofChange fnSplitNameIndexLaterStartConsistentWrong)

end Rows
end Go.Proofs.Qxb6601191aMods
