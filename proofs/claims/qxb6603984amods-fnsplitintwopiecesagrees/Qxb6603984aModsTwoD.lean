/-
  A REGION OF A FUNCTION's TEXT, BY ITS NUMBER.
-/
import Derived.Test.Qxb6603984aModsTwoOut
namespace Go.Proofs.Qxb6603984aMods
open Go.RowKit Plain

/-- The region that bears the number n. -/
def regOf (n : Nat) : Code → Option Code
  | .region m ops d => bif Nat.beq m n then some (.region m ops d) else none
  | .seq a b => match regOf n a with
    | some c => some c
    | none => regOf n b
  | .cond _ a b => match regOf n a with
    | some c => some c
    | none => regOf n b
  | .block _ a => regOf n a
  | .loop a => regOf n a
  | _ => none

theorem wp_at {o : Option Code} {c d : Code} {Q : Exit → Act → World → Prop} {a : Act} {w : World} (hc : o = some c) (hd : o = some d) (h : d.wp Trym.prog Q a w) : c.wp Trym.prog Q a w := by
  rw [hc] at hd
  cases hd
  exact h

end Go.Proofs.Qxb6603984aMods
