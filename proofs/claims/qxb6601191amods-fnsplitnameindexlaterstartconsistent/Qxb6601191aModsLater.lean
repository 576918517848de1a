/-
  THE WALK OF FnSplitNameIndexLaterStartConsistent.
-/
import Derived.Test.Qxb6601191aModsWalks
namespace Go.Proofs.Qxb6601191aMods
open Go.RowKit Plain

theorem later_out (f s : ByteArray) (c n m : Int) (w : World) (hf : f.size ≤ maxLen) (hs : s.size ≤ maxLen) (h : ¬ f.size + s.size ≤ 1048576) :
    Calls Trym.prog 5 #[.string f, .string s, .int .u8 c, .int .i64 n, .int .i64 m] w fun e w' => e = .returned (.bool true) ∧ Grown w w' := by
  have k := zb10 f s c n m w hf hs
  rw [decide_eq_false h] at k
  have K := hide k
  clear k
  go_enter Trym.func5, Trym.ntmps5
  go_wp2_with fail
  refine K.out.mono ?_
  rintro e w' ⟨rfl, rfl⟩
  go_wp2
  go_ret
  exact ⟨rfl, Grown.refl _⟩

set_option maxHeartbeats 1000000 in
theorem later_in (f s : ByteArray) (c n m : Int) (w : World) (h : f.size + s.size ≤ 1048576) :
    Calls Trym.prog 5 #[.string f, .string s, .int .u8 c, .int .i64 n, .int .i64 m] w fun e w' => e = .returned (.bool true) ∧ Grown w w' := by
  have k := zb10 f s c n m w (by unfold maxLen; omega) (by unfold maxLen; omega)
  rw [decide_eq_true h] at k
  have K := hide k
  clear k
  have hf : f.size ≤ 1048576 := by omega
  have hs : s.size ≤ 1048576 := by omega
  by_cases h1 : n < 0
  · go_enter Trym.func5, Trym.ntmps5
    go_wp2_with fail
    refine K.out.mono ?_
    rintro e w' ⟨rfl, rfl⟩
    go_wp2
    go_ret
    exact ⟨rfl, Grown.refl _⟩
  obtain ⟨n, rfl⟩ := Int.eq_ofNat_of_zero_le (by omega : 0 ≤ n)
  by_cases h2 : f.size + s.size < n
  · have h2' : (f.size : Int) + (s.size : Int) < (n : Int) := by omega
    go_enter Trym.func5, Trym.ntmps5
    go_wp2_with fail
    refine K.out.mono ?_
    rintro e w' ⟨rfl, rfl⟩
    go_wp2
    go_ret
    exact ⟨rfl, Grown.refl _⟩
  by_cases h3 : m < n
  · go_enter Trym.func5, Trym.ntmps5
    go_wp2_with fail
    refine K.out.mono ?_
    rintro e w' ⟨rfl, rfl⟩
    go_wp2
    go_ret
    exact ⟨rfl, Grown.refl _⟩
  obtain ⟨m, rfl⟩ := Int.eq_ofNat_of_zero_le (by omega : 0 ≤ m)
  by_cases h4 : f.size + s.size < m
  · have h4' : (f.size : Int) + (s.size : Int) < (m : Int) := by omega
    go_enter Trym.func5, Trym.ntmps5
    go_wp2_with fail
    refine K.out.mono ?_
    rintro e w' ⟨rfl, rfl⟩
    go_wp2
    go_ret
    exact ⟨rfl, Grown.refl _⟩
  have hnm : n ≤ m := by omega
  clear h1 h3
  go_enter Trym.func5, Trym.ntmps5
  go_wp2_with fail
  refine K.out.mono ?_
  rintro e w' ⟨rfl, rfl⟩
  clear K
  go_wp2_with fail
  refine (zz_any f s c n _ hf hs (by omega)).mono ?_
  rintro e w' ⟨⟨r, rfl, hr⟩, rfl⟩
  have HR := hide hr
  clear hr
  go_wp2_with fail
  refine (zz_any f s c m _ hf hs (by omega)).mono ?_
  rintro e w' ⟨⟨t, rfl, ht⟩, rfl⟩
  have HL := hide (IsFirst.later HR.out ht hnm)
  clear ht HR
  have hG : Grown w ((w.alloc (.cells #[.string f, .string s] 26)).alloc (.cells #[.string f, .string s] 26)) := Grown.alloc (Grown.alloc (Grown.refl _) _ _) _ _
  have HG := hide hG
  clear hG
  by_cases c1 : r < 0
  · obtain rfl := HL.out.1 c1
    clear HL
    go_wp2
    go_ret
    exact ⟨rfl, HG.out⟩
  · have c1' : 0 ≤ r := by omega
    by_cases c2 : (m : Int) ≤ r
    · obtain rfl := HL.out.2.1 c1' c2
      clear HL
      have hrr : (t == t) = true := by simp
      go_wp2
      go_ret
      exact ⟨rfl, HG.out⟩
    · rcases HL.out.2.2 c1' c2 with rfl | c3
      · clear HL
        go_wp2
        go_ret
        exact ⟨rfl, HG.out⟩
      · clear HL
        have hne : (t == -1) = false := by rw [beq_eq_false_iff_ne]; omega
        go_wp2
        go_ret
        exact ⟨rfl, HG.out⟩

end Go.Proofs.Qxb6601191aMods
