/-
  FnSplitInTwoPiecesAgrees OUTSIDE ITS BOUNDS: true at once.
-/
import Derived.Test.Qxb6603984aModsTwoB
namespace Go.Proofs.Qxb6603984aMods
open Go.RowKit Plain

set_option maxHeartbeats 4000000 in
set_option maxRecDepth 100000 in
theorem two_long1 (a0 : Int) (a1 : Option Addr) (l1 c1 : Nat) (a2 : Option Addr) (l2 c2 : Nat) (a3 : Int) (w : World) (h1 : l1 ≤ maxLen) (h2 : l2 ≤ maxLen) (h : 65536 < (l1 : Int)) :
    Calls Trym.prog 5 #[.int .i64 a0, .slice a1 l1 c1, .slice a2 l2 c2, .int .i64 a3] w fun e w' => e = .returned (.bool true) ∧ Below w.heap.size w w' := by
  have H1 := hide h1
  have H2 := hide h2
  clear h1 h2
  go_enter Trym.func5, Trym.ntmps5
  go_wp2_with fail
  refine (zb20_any _ _ _ _ _ _ _ _ _ H1.out H2.out).mono ?_
  rintro e w' ⟨⟨b, rfl⟩, rfl⟩
  cases b with
  | false =>
    go_wp2_with fail
    go_ret
    exact ⟨rfl, Below.refl _ _⟩
  | true =>
    go_wp2_with fail
    go_ret
    exact ⟨rfl, Below.refl _ _⟩

set_option maxHeartbeats 4000000 in
set_option maxRecDepth 100000 in
theorem two_long2 (a0 : Int) (a1 : Option Addr) (l1 c1 : Nat) (a2 : Option Addr) (l2 c2 : Nat) (a3 : Int) (w : World) (h1 : l1 ≤ maxLen) (h2 : l2 ≤ maxLen) (h : ¬ 65536 < (l1 : Int)) (h' : 65536 < (l2 : Int)) :
    Calls Trym.prog 5 #[.int .i64 a0, .slice a1 l1 c1, .slice a2 l2 c2, .int .i64 a3] w fun e w' => e = .returned (.bool true) ∧ Below w.heap.size w w' := by
  have H1 := hide h1
  have H2 := hide h2
  clear h1 h2
  go_enter Trym.func5, Trym.ntmps5
  go_wp2_with fail
  refine (zb20_any _ _ _ _ _ _ _ _ _ H1.out H2.out).mono ?_
  rintro e w' ⟨⟨b, rfl⟩, rfl⟩
  cases b with
  | false =>
    go_wp2_with fail
    go_ret
    exact ⟨rfl, Below.refl _ _⟩
  | true =>
    go_wp2_with fail
    go_ret
    exact ⟨rfl, Below.refl _ _⟩

set_option maxHeartbeats 4000000 in
set_option maxRecDepth 100000 in
theorem two_neg (a0 : Int) (a1 : Option Addr) (l1 c1 : Nat) (a2 : Option Addr) (l2 c2 : Nat) (a3 : Int) (w : World) (h1 : l1 ≤ 65536) (h2 : l2 ≤ 65536) (h : a0 < 0) :
    Calls Trym.prog 5 #[.int .i64 a0, .slice a1 l1 c1, .slice a2 l2 c2, .int .i64 a3] w fun e w' => e = .returned (.bool true) ∧ Below w.heap.size w w' := by
  go_enter Trym.func5, Trym.ntmps5
  go_wp2_with fail
  refine (zb20_yes _ _ _ _ _ _ _ _ _ h1 h2).mono ?_
  rintro e w' ⟨rfl, rfl⟩
  go_wp2_with fail
  go_ret
  exact ⟨rfl, Below.refl _ _⟩

set_option maxHeartbeats 4000000 in
set_option maxRecDepth 100000 in
theorem two_big (a0 : Int) (a1 : Option Addr) (l1 c1 : Nat) (a2 : Option Addr) (l2 c2 : Nat) (a3 : Int) (w : World) (h1 : l1 ≤ 65536) (h2 : l2 ≤ 65536) (h : ¬ a0 < 0) (h' : 1073741824 < a0) :
    Calls Trym.prog 5 #[.int .i64 a0, .slice a1 l1 c1, .slice a2 l2 c2, .int .i64 a3] w fun e w' => e = .returned (.bool true) ∧ Below w.heap.size w w' := by
  go_enter Trym.func5, Trym.ntmps5
  go_wp2_with fail
  refine (zb20_yes _ _ _ _ _ _ _ _ _ h1 h2).mono ?_
  rintro e w' ⟨rfl, rfl⟩
  go_wp2_with fail
  go_ret
  exact ⟨rfl, Below.refl _ _⟩

set_option maxHeartbeats 4000000 in
set_option maxRecDepth 100000 in
theorem two_field (line : Nat) (a1 : Option Addr) (l1 c1 : Nat) (a2 : Option Addr) (l2 c2 : Nat) (a3 : Int) (w : World) (h1 : l1 ≤ 65536) (h2 : l2 ≤ 65536) (hl : line ≤ 1073741824) (h : l1 ≠ min line 5) :
    Calls Trym.prog 5 #[.int .i64 line, .slice a1 l1 c1, .slice a2 l2 c2, .int .i64 a3] w fun e w' => e = .returned (.bool true) ∧ Below w.heap.size w w' := by
  have hm : ((l1 : Int) != ((min line 5 : Nat) : Int)) = true := by simpa using (by omega : ¬ (l1 : Int) = ((min line 5 : Nat) : Int))
  have HM := hide hm
  clear hm h
  go_enter Trym.func5, Trym.ntmps5
  go_wp2_with fail
  refine (zb20_yes _ _ _ _ _ _ _ _ _ h1 h2).mono ?_
  rintro e w' ⟨rfl, rfl⟩
  go_wp2_with fail
  refine (min_any line _).mono ?_
  rintro e w' ⟨rfl, rfl⟩
  have hm := HM.out
  go_wp2_with fail
  go_ret
  exact ⟨rfl, Below.refl _ _⟩

set_option maxHeartbeats 4000000 in
set_option maxRecDepth 100000 in
theorem two_k (line : Nat) (a1 : Option Addr) (l1 c1 : Nat) (a2 : Option Addr) (l2 c2 : Nat) (a3 : Int) (w : World) (h1 : l1 ≤ 65536) (h2 : l2 ≤ 65536) (hl : line ≤ 1073741824) (h : l1 = min line 5) (hk : a3 < 0 ∨ (¬ a3 < 0 ∧ (l2 : Int) < a3)) :
    Calls Trym.prog 5 #[.int .i64 line, .slice a1 l1 c1, .slice a2 l2 c2, .int .i64 a3] w fun e w' => e = .returned (.bool true) ∧ Below w.heap.size w w' := by
  have hm : ((l1 : Int) != ((min line 5 : Nat) : Int)) = false := by rw [h]; simp
  have HM := hide hm
  clear hm h
  rcases hk with hk | ⟨hk, hk'⟩
  all_goals
    go_enter Trym.func5, Trym.ntmps5
    go_wp2_with fail
    refine (zb20_yes _ _ _ _ _ _ _ _ _ h1 h2).mono ?_
    rintro e w' ⟨rfl, rfl⟩
    go_wp2_with fail
    refine (min_any line _).mono ?_
    rintro e w' ⟨rfl, rfl⟩
    have hm := HM.out
    go_wp2_with fail
    go_ret
    exact ⟨rfl, Below.refl _ _⟩

end Go.Proofs.Qxb6603984aMods
