/-
  No cell of these rows narrows 'for every input' (looked for: loops, veiled, ifaces, maps, wideKeys, modest, calm, conditions, laid).
  DERIVED. THE GIVEN ROWS OF THIS SEAT. 3 by the template 'for every input the law returns true; each argument reads behind the call as it read before'; 0 by the template 'total and deterministic' (their statements: Qxb6603984aModsTotals.lean).
  GIVEN WITH THE SEED: the statements are not yours to turn. If you find one false, say at which input.
  Laid BY PROGRAM, IN A SANDBOX (cutbox-rows.mjs): the forced cells as the released guide's own fill.sh prints them over the translation 005013e0fc2560bb… (all of the seat's roots in one cut). By AI agents, Wed Nov 11 2026. No macro, syntax, notation, axiom, sorry.
-/
import Derived.Test.Qxb6603984aModsChecked
import GoSem.Claim
import GoSem.ClaimJoined
import GoSem.ClaimMapViews
import Derived.JoinedTies
import Derived.KernelRfl
namespace Go.Proofs.Qxb6603984aMods
/- THE CELL 'sum', in the pinned program and in every row, IS THE sha256 OF THE DUMP (.gsa) THAT Qxb6603984aModsProg.lean LOADS. Nothing in Lean hashes anything: it is a label: what it is worth is what the hold of that sum in a sandbox is worth. -/
noncomputable def Trym.pinned : Pinned := { name := "qxb6603984amods", sum := "005013e0fc2560bb3260915f8e9d21e82ea931a45a326b3a5334acb639cd5772", checked := Trym.checked }
namespace Rows
def none {H : Type} : Left H := { results := [], args := [] }

/-- 'zzlaws_tools_b1.FnInStringClosesAtFirstUnescapedQuote': WHATEVER THE INPUT: true; the input reads as it did. -/
def fnInStringClosesAtFirstUnescapedQuoteSpec : ChangeSpec := { name := "fnInStringClosesAtFirstUnescapedQuote", fn := fun _ => fun
  | [d1, d2, d3, d4, d5, d6, d7, d8, d9] => { results := [.lit (.bool true)], args := [d1, d2, d3, d4, d5, d6, d7, d8, d9] }
  | _ => none }
def fnInStringClosesAtFirstUnescapedQuoteRow : OpenClaim := { program := "qxb6603984amods", sum := "005013e0fc2560bb3260915f8e9d21e82ea931a45a326b3a5334acb639cd5772", func := "example.com/ecdysis/ecdysis/zzlaws_tools_b1.FnInStringClosesAtFirstUnescapedQuote", spec := "fnInStringClosesAtFirstUnescapedQuote", make := .lifted ["publicsums"], apart := false }
def FnInStringClosesAtFirstUnescapedQuoteSaid : Prop := fnInStringClosesAtFirstUnescapedQuoteRow.holds Trym.pinned (OpenSpec.ofChange fnInStringClosesAtFirstUnescapedQuoteSpec)

/-- ITS FALSE NEIGHBOUR: 'it returns false'. Refute it at one input. -/
def fnInStringClosesAtFirstUnescapedQuoteWrong : ChangeSpec := { name := "fnInStringClosesAtFirstUnescapedQuote", fn := fun _ => fun
  | [d1, d2, d3, d4, d5, d6, d7, d8, d9] => { results := [.lit (.bool false)], args := [d1, d2, d3, d4, d5, d6, d7, d8, d9] }
  | _ => none }
def FnInStringClosesAtFirstUnescapedQuoteWrongFalsely : Prop := fnInStringClosesAtFirstUnescapedQuoteRow.holds Trym.pinned (OpenSpec.ofChange fnInStringClosesAtFirstUnescapedQuoteWrong)

/-- 'zzlaws_tools_b1.FnSplitMatchesLineModel': WHATEVER THE INPUT: true; the input reads as it did. -/
def fnSplitMatchesLineModelSpec : ChangeSpec := { name := "fnSplitMatchesLineModel", fn := fun _ => fun
  | [d1, d2, d3, d4, d5, d6, d7, d8, d9, d10, d11, d12] => { results := [.lit (.bool true)], args := [d1, d2, d3, d4, d5, d6, d7, d8, d9, d10, d11, d12] }
  | _ => none }
def fnSplitMatchesLineModelRow : OpenClaim := { program := "qxb6603984amods", sum := "005013e0fc2560bb3260915f8e9d21e82ea931a45a326b3a5334acb639cd5772", func := "example.com/ecdysis/ecdysis/zzlaws_tools_b1.FnSplitMatchesLineModel", spec := "fnSplitMatchesLineModel", inPlace := ["internal/bytealg.IndexByte"], make := .lifted ["publicsums"], apart := false }
def FnSplitMatchesLineModelSaid : Prop := fnSplitMatchesLineModelRow.holds Trym.pinned (OpenSpec.ofChange fnSplitMatchesLineModelSpec)

/-- ITS FALSE NEIGHBOUR: 'it returns false'. Refute it at one input. -/
def fnSplitMatchesLineModelWrong : ChangeSpec := { name := "fnSplitMatchesLineModel", fn := fun _ => fun
  | [d1, d2, d3, d4, d5, d6, d7, d8, d9, d10, d11, d12] => { results := [.lit (.bool false)], args := [d1, d2, d3, d4, d5, d6, d7, d8, d9, d10, d11, d12] }
  | _ => none }
def FnSplitMatchesLineModelWrongFalsely : Prop := fnSplitMatchesLineModelRow.holds Trym.pinned (OpenSpec.ofChange fnSplitMatchesLineModelWrong)

/-- 'zzlaws_tools_b1.FnSplitInTwoPiecesAgrees': WHATEVER THE INPUT: true; the input reads as it did. -/
def fnSplitInTwoPiecesAgreesSpec : ChangeSpec := { name := "fnSplitInTwoPiecesAgrees", fn := fun _ => fun
  | [d1, d2, d3, d4] => { results := [.lit (.bool true)], args := [d1, d2, d3, d4] }
  | _ => none }
def fnSplitInTwoPiecesAgreesRow : OpenClaim := { program := "qxb6603984amods", sum := "005013e0fc2560bb3260915f8e9d21e82ea931a45a326b3a5334acb639cd5772", func := "example.com/ecdysis/ecdysis/zzlaws_tools_b1.FnSplitInTwoPiecesAgrees", spec := "fnSplitInTwoPiecesAgrees", inPlace := ["internal/bytealg.IndexByte"], make := .lifted ["publicsums"], apart := false }
def FnSplitInTwoPiecesAgreesSaid : Prop := fnSplitInTwoPiecesAgreesRow.holds Trym.pinned (OpenSpec.ofChange fnSplitInTwoPiecesAgreesSpec)

/-- ITS FALSE NEIGHBOUR: 'it returns false'. Refute it at one input. -/
def fnSplitInTwoPiecesAgreesWrong : ChangeSpec := { name := "fnSplitInTwoPiecesAgrees", fn := fun _ => fun
  | [d1, d2, d3, d4] => { results := [.lit (.bool false)], args := [d1, d2, d3, d4] }
  | _ => none }
def FnSplitInTwoPiecesAgreesWrongFalsely : Prop := fnSplitInTwoPiecesAgreesRow.holds Trym.pinned (OpenSpec.ofChange fnSplitInTwoPiecesAgreesWrong)

end Rows
end Go.Proofs.Qxb6603984aMods
