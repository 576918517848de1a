/-
  FnSplitMatchesLineModel OUTSIDE ITS BOUNDS: true at once.
-/
import Derived.Test.Qxb6603984aModsLineC
namespace Go.Proofs.Qxb6603984aMods
open Go.RowKit Plain

set_option maxHeartbeats 4000000 in
set_option maxRecDepth 100000 in
theorem line_long1 (a0 : Int) (a1 : Option Addr) (l1 c1 : Nat) (d : Int) (b1 b2 : Bool) (t : Int) (b3 : Bool) (a2 : Option Addr) (l2 c2 : Nat) (b4 : Bool) (a3 : Option Addr) (l3 c3 : Nat) (b5 : Bool) (a4 : Option Addr) (l4 c4 : Nat) (w : World) (m1 : l1 ≤ maxLen) (m2 : l2 ≤ maxLen) (m3 : l3 ≤ maxLen) (m4 : l4 ≤ maxLen) (h1 : 65536 < (l1 : Int)) :
    Calls Trym.prog 4 #[.int .i64 a0, .slice a1 l1 c1, .int .i64 d, .bool b1, .bool b2, .int .i64 t, .bool b3, .slice a2 l2 c2, .bool b4, .slice a3 l3 c3, .bool b5, .slice a4 l4 c4] w fun e w' => e = .returned (.bool true) ∧ Below w.heap.size w w' := by
  have M1 := hide m1
  have M2 := hide m2
  have M3 := hide m3
  have M4 := hide m4
  clear m1 m2 m3 m4
  go_enter Trym.func4, Trym.ntmps4
  go_wp2_with fail
  refine (zb12_any _ _ _ _ _ _ _ _ _ _ _ _ _ _ _ _ _ _ _ _ _ M1.out M2.out M3.out M4.out).mono ?_
  rintro e w' ⟨⟨b, rfl⟩, rfl⟩
  cases b with
  | false =>
    go_wp2_with fail
    go_ret
    exact ⟨rfl, Below.refl _ _⟩
  | true =>
    go_wp2_with fail
    go_ret
    exact ⟨rfl, Below.refl _ _⟩

set_option maxHeartbeats 4000000 in
set_option maxRecDepth 100000 in
theorem line_long2 (a0 : Int) (a1 : Option Addr) (l1 c1 : Nat) (d : Int) (b1 b2 : Bool) (t : Int) (b3 : Bool) (a2 : Option Addr) (l2 c2 : Nat) (b4 : Bool) (a3 : Option Addr) (l3 c3 : Nat) (b5 : Bool) (a4 : Option Addr) (l4 c4 : Nat) (w : World) (m1 : l1 ≤ maxLen) (m2 : l2 ≤ maxLen) (m3 : l3 ≤ maxLen) (m4 : l4 ≤ maxLen) (h1 : ¬ 65536 < (l1 : Int)) (h2 : 65536 < (l2 : Int)) :
    Calls Trym.prog 4 #[.int .i64 a0, .slice a1 l1 c1, .int .i64 d, .bool b1, .bool b2, .int .i64 t, .bool b3, .slice a2 l2 c2, .bool b4, .slice a3 l3 c3, .bool b5, .slice a4 l4 c4] w fun e w' => e = .returned (.bool true) ∧ Below w.heap.size w w' := by
  have M1 := hide m1
  have M2 := hide m2
  have M3 := hide m3
  have M4 := hide m4
  clear m1 m2 m3 m4
  go_enter Trym.func4, Trym.ntmps4
  go_wp2_with fail
  refine (zb12_any _ _ _ _ _ _ _ _ _ _ _ _ _ _ _ _ _ _ _ _ _ M1.out M2.out M3.out M4.out).mono ?_
  rintro e w' ⟨⟨b, rfl⟩, rfl⟩
  cases b with
  | false =>
    go_wp2_with fail
    go_ret
    exact ⟨rfl, Below.refl _ _⟩
  | true =>
    go_wp2_with fail
    go_ret
    exact ⟨rfl, Below.refl _ _⟩

set_option maxHeartbeats 4000000 in
set_option maxRecDepth 100000 in
theorem line_long3 (a0 : Int) (a1 : Option Addr) (l1 c1 : Nat) (d : Int) (b1 b2 : Bool) (t : Int) (b3 : Bool) (a2 : Option Addr) (l2 c2 : Nat) (b4 : Bool) (a3 : Option Addr) (l3 c3 : Nat) (b5 : Bool) (a4 : Option Addr) (l4 c4 : Nat) (w : World) (m1 : l1 ≤ maxLen) (m2 : l2 ≤ maxLen) (m3 : l3 ≤ maxLen) (m4 : l4 ≤ maxLen) (h1 : ¬ 65536 < (l1 : Int)) (h2 : ¬ 65536 < (l2 : Int)) (h3 : 65536 < (l3 : Int)) :
    Calls Trym.prog 4 #[.int .i64 a0, .slice a1 l1 c1, .int .i64 d, .bool b1, .bool b2, .int .i64 t, .bool b3, .slice a2 l2 c2, .bool b4, .slice a3 l3 c3, .bool b5, .slice a4 l4 c4] w fun e w' => e = .returned (.bool true) ∧ Below w.heap.size w w' := by
  have M1 := hide m1
  have M2 := hide m2
  have M3 := hide m3
  have M4 := hide m4
  clear m1 m2 m3 m4
  go_enter Trym.func4, Trym.ntmps4
  go_wp2_with fail
  refine (zb12_any _ _ _ _ _ _ _ _ _ _ _ _ _ _ _ _ _ _ _ _ _ M1.out M2.out M3.out M4.out).mono ?_
  rintro e w' ⟨⟨b, rfl⟩, rfl⟩
  cases b with
  | false =>
    go_wp2_with fail
    go_ret
    exact ⟨rfl, Below.refl _ _⟩
  | true =>
    go_wp2_with fail
    go_ret
    exact ⟨rfl, Below.refl _ _⟩

set_option maxHeartbeats 4000000 in
set_option maxRecDepth 100000 in
theorem line_long4 (a0 : Int) (a1 : Option Addr) (l1 c1 : Nat) (d : Int) (b1 b2 : Bool) (t : Int) (b3 : Bool) (a2 : Option Addr) (l2 c2 : Nat) (b4 : Bool) (a3 : Option Addr) (l3 c3 : Nat) (b5 : Bool) (a4 : Option Addr) (l4 c4 : Nat) (w : World) (m1 : l1 ≤ maxLen) (m2 : l2 ≤ maxLen) (m3 : l3 ≤ maxLen) (m4 : l4 ≤ maxLen) (h1 : ¬ 65536 < (l1 : Int)) (h2 : ¬ 65536 < (l2 : Int)) (h3 : ¬ 65536 < (l3 : Int)) (h4 : 65536 < (l4 : Int)) :
    Calls Trym.prog 4 #[.int .i64 a0, .slice a1 l1 c1, .int .i64 d, .bool b1, .bool b2, .int .i64 t, .bool b3, .slice a2 l2 c2, .bool b4, .slice a3 l3 c3, .bool b5, .slice a4 l4 c4] w fun e w' => e = .returned (.bool true) ∧ Below w.heap.size w w' := by
  have M1 := hide m1
  have M2 := hide m2
  have M3 := hide m3
  have M4 := hide m4
  clear m1 m2 m3 m4
  go_enter Trym.func4, Trym.ntmps4
  go_wp2_with fail
  refine (zb12_any _ _ _ _ _ _ _ _ _ _ _ _ _ _ _ _ _ _ _ _ _ M1.out M2.out M3.out M4.out).mono ?_
  rintro e w' ⟨⟨b, rfl⟩, rfl⟩
  cases b with
  | false =>
    go_wp2_with fail
    go_ret
    exact ⟨rfl, Below.refl _ _⟩
  | true =>
    go_wp2_with fail
    go_ret
    exact ⟨rfl, Below.refl _ _⟩

set_option maxHeartbeats 4000000 in
set_option maxRecDepth 100000 in
theorem line_neg (a0 : Int) (a1 : Option Addr) (l1 c1 : Nat) (d : Int) (b1 b2 : Bool) (t : Int) (b3 : Bool) (a2 : Option Addr) (l2 c2 : Nat) (b4 : Bool) (a3 : Option Addr) (l3 c3 : Nat) (b5 : Bool) (a4 : Option Addr) (l4 c4 : Nat) (w : World) (m1 : l1 ≤ 65536) (m2 : l2 ≤ 65536) (m3 : l3 ≤ 65536) (m4 : l4 ≤ 65536) (h : a0 < 0) :
    Calls Trym.prog 4 #[.int .i64 a0, .slice a1 l1 c1, .int .i64 d, .bool b1, .bool b2, .int .i64 t, .bool b3, .slice a2 l2 c2, .bool b4, .slice a3 l3 c3, .bool b5, .slice a4 l4 c4] w fun e w' => e = .returned (.bool true) ∧ Below w.heap.size w w' := by
  go_enter Trym.func4, Trym.ntmps4
  go_wp2_with fail
  refine (zb12_yes _ _ _ _ _ _ _ _ _ _ _ _ _ _ _ _ _ _ _ _ _ m1 m2 m3 m4).mono ?_
  rintro e w' ⟨rfl, rfl⟩
  go_wp2_with fail
  go_ret
  exact ⟨rfl, Below.refl _ _⟩

set_option maxHeartbeats 4000000 in
set_option maxRecDepth 100000 in
theorem line_big (a0 : Int) (a1 : Option Addr) (l1 c1 : Nat) (d : Int) (b1 b2 : Bool) (t : Int) (b3 : Bool) (a2 : Option Addr) (l2 c2 : Nat) (b4 : Bool) (a3 : Option Addr) (l3 c3 : Nat) (b5 : Bool) (a4 : Option Addr) (l4 c4 : Nat) (w : World) (m1 : l1 ≤ 65536) (m2 : l2 ≤ 65536) (m3 : l3 ≤ 65536) (m4 : l4 ≤ 65536) (h : ¬ a0 < 0) (h' : 1073741824 < a0) :
    Calls Trym.prog 4 #[.int .i64 a0, .slice a1 l1 c1, .int .i64 d, .bool b1, .bool b2, .int .i64 t, .bool b3, .slice a2 l2 c2, .bool b4, .slice a3 l3 c3, .bool b5, .slice a4 l4 c4] w fun e w' => e = .returned (.bool true) ∧ Below w.heap.size w w' := by
  go_enter Trym.func4, Trym.ntmps4
  go_wp2_with fail
  refine (zb12_yes _ _ _ _ _ _ _ _ _ _ _ _ _ _ _ _ _ _ _ _ _ m1 m2 m3 m4).mono ?_
  rintro e w' ⟨rfl, rfl⟩
  go_wp2_with fail
  go_ret
  exact ⟨rfl, Below.refl _ _⟩

set_option maxHeartbeats 4000000 in
set_option maxRecDepth 100000 in
theorem line_field (line : Nat) (a1 : Option Addr) (l1 c1 : Nat) (d : Int) (b1 b2 : Bool) (t : Int) (b3 : Bool) (a2 : Option Addr) (l2 c2 : Nat) (b4 : Bool) (a3 : Option Addr) (l3 c3 : Nat) (b5 : Bool) (a4 : Option Addr) (l4 c4 : Nat) (w : World) (m1 : l1 ≤ 65536) (m2 : l2 ≤ 65536) (m3 : l3 ≤ 65536) (m4 : l4 ≤ 65536) (hl : line ≤ 1073741824) (h : l1 ≠ min line 5) :
    Calls Trym.prog 4 #[.int .i64 line, .slice a1 l1 c1, .int .i64 d, .bool b1, .bool b2, .int .i64 t, .bool b3, .slice a2 l2 c2, .bool b4, .slice a3 l3 c3, .bool b5, .slice a4 l4 c4] w fun e w' => e = .returned (.bool true) ∧ Below w.heap.size w w' := by
  have hm : ((l1 : Int) != ((min line 5 : Nat) : Int)) = true := by simpa using (by omega : ¬ (l1 : Int) = ((min line 5 : Nat) : Int))
  have HM := hide hm
  clear hm h
  go_enter Trym.func4, Trym.ntmps4
  go_wp2_with fail
  refine (zb12_yes _ _ _ _ _ _ _ _ _ _ _ _ _ _ _ _ _ _ _ _ _ m1 m2 m3 m4).mono ?_
  rintro e w' ⟨rfl, rfl⟩
  go_wp2_with fail
  refine (min_any line _).mono ?_
  rintro e w' ⟨rfl, rfl⟩
  have hm := HM.out
  go_wp2_with fail
  go_ret
  exact ⟨rfl, Below.refl _ _⟩

end Go.Proofs.Qxb6603984aMods
