/-
  THE WALKS: strings.IndexByte, splitName.index, ZZSplitNameIndex.
-/
import Derived.Test.Qxb6601191aModsRows
import Derived.Test.Qxb6601191aModsPlain
import Derived.WalkKit
import Derived.WalkSpells
import Derived.ProofKit
import Derived.Lib.Bytealg
import Derived.Lib.IndexBytes
namespace Go.Proofs.Qxb6601191aMods
open Go.RowKit Plain

theorem hide {p : Prop} (h : p) : Hid p := h

/-- internal/stringslite.IndexByte. -/
theorem lite_any (s : ByteArray) (c : Int) (w : World) :
    Calls Trym.prog 14 #[.string s, .int .u8 c] w fun e w' => e = .returned (.int .i64 (Lib.indexByte s.data.toList c.toNat.toUInt8)) ∧ w = w' := by
  go_enter Trym.func14, Trym.ntmps14
  go_wp2
  rw [run_callFunc_extern Trym.func15 (by kernel_rfl) (by kernel_rfl) (by kernel_rfl) (e := Extern.BytealgIndexByte.indexByte) (by kernel_rfl), Lib.run_indexByteString]
  simp only [Result.andThen]
  rw [Oper.upon_value]
  go_wp2
  go_ret
  exact ⟨rfl, rfl⟩

/-- strings.IndexByte. -/
theorem index_any (s : ByteArray) (c : Int) (r : Int) (w : World) (hr : Lib.indexByte s.data.toList c.toNat.toUInt8 = r) :
    Calls Trym.prog 13 #[.string s, .int .u8 c] w fun e w' => e = .returned (.int .i64 r) ∧ w = w' := by
  have H := hide hr
  clear hr
  go_enter Trym.func13, Trym.ntmps13
  go_wp2_with (go_at_call 14; refine (lite_any _ _ _).mono ?_; rintro e w' ⟨rfl, rfl⟩)
  go_ret
  exact ⟨by rw [H.out]; rfl, rfl⟩

set_option maxHeartbeats 400000 in
/-- splitName.index. -/
theorem split_any (f s : ByteArray) (c : Int) (n : Nat) (w : World) (hf : f.size ≤ 1048576) (hs : s.size ≤ 1048576) (hn : n ≤ f.size + s.size) :
    Calls Trym.prog 11 #[.agg #[.string f, .string s], .int .u8 c, .int .i64 n] w fun e w' =>
      (∃ r, e = .returned (.int .i64 r) ∧ IsFirst (f.data.toList ++ s.data.toList) c.toNat.toUInt8 n r) ∧ w' = w.alloc (.cells #[.string f, .string s] 26) := by
  by_cases hlt : n < f.size
  · rcases idx_cases (f.data.toList.drop n) c.toNat.toUInt8 with h1 | ⟨k, h1, hk⟩
    · have HN := hide (none_in h1)
      have HI : Hid (Lib.indexByte (f.extract n f.size).data.toList c.toNat.toUInt8 = -1) := by show _ = _; rw [Lib.extract_to_end]; exact h1
      obtain ⟨r, hr⟩ : ∃ r, Lib.indexByte s.data.toList c.toNat.toUInt8 = r := ⟨_, rfl⟩
      have hd : s.data.toList.drop (f.size - f.data.toList.length) = s.data.toList := by rw [← Lib.size_eq]; simp
      have HJ := hide (join_second (l1 := f.data.toList) (l2 := s.data.toList) (n := n) (m := f.size) (r := r) HN.out (by rw [← Lib.size_eq]; omega) (by omega) (by rw [← Lib.size_eq]; omega) (by rw [← Lib.size_eq]; omega) (by rw [hd]; exact hr))
      have HR := hide hr
      have hrc : r = -1 ∨ ∃ k : Nat, r = k ∧ k < s.size := by
        rcases idx_cases s.data.toList c.toNat.toUInt8 with h | ⟨k, h, hk⟩
        · exact .inl (by rw [← hr]; exact h)
        · exact .inr ⟨k, by rw [← hr]; exact h, by rw [Lib.size_eq]; exact hk⟩
      clear h1 hr hd HN
      rcases hrc with rfl | ⟨k, rfl, hk⟩
      · go_enter Trym.func11, Trym.ntmps11
        go_wp2_with fail
        refine (index_any _ c _ _ HI.out).mono ?_
        rintro e w' ⟨rfl, rfl⟩
        go_wp2_with fail
        refine (index_any _ c _ _ HR.out).mono ?_
        rintro e w' ⟨rfl, rfl⟩
        go_wp2
        go_ret
        exact ⟨⟨_, rfl, by simpa using HJ.out⟩, rfl⟩
      · go_enter Trym.func11, Trym.ntmps11
        go_wp2_with fail
        refine (index_any _ c _ _ HI.out).mono ?_
        rintro e w' ⟨rfl, rfl⟩
        go_wp2_with fail
        refine (index_any _ c _ _ HR.out).mono ?_
        rintro e w' ⟨rfl, rfl⟩
        go_wp2
        go_ret
        refine ⟨⟨_, rfl, ?_⟩, rfl⟩
        have := HJ.out
        rw [if_neg (by omega)] at this
        exact this
    · have hk' : n + k < f.size := by rw [List.length_drop, ← Lib.size_eq] at hk; omega
      have HI : Hid (Lib.indexByte (f.extract n f.size).data.toList c.toNat.toUInt8 = (k : Int)) := by show _ = _; rw [Lib.extract_to_end]; exact h1
      have HJ := hide (join_first (l2 := s.data.toList) h1)
      clear h1 hk
      go_enter Trym.func11, Trym.ntmps11
      go_wp2_with fail
      refine (index_any _ c _ _ HI.out).mono ?_
      rintro e w' ⟨rfl, rfl⟩
      go_wp2
      go_ret
      exact ⟨⟨_, rfl, HJ.out⟩, rfl⟩
  · obtain ⟨r, hr⟩ : ∃ r, Lib.indexByte (s.data.toList.drop (n - f.size)) c.toNat.toUInt8 = r := ⟨_, rfl⟩
    have HJ := hide (join_second (l1 := f.data.toList) (l2 := s.data.toList) (n := n) (m := n) (r := r) (fun i h1 h2 => by rw [← Lib.size_eq] at h2; omega) (by rw [← Lib.size_eq]; omega) (by omega) (by omega) (by rw [← Lib.size_eq]; omega) (by rw [← Lib.size_eq]; exact hr))
    have HR : Hid (Lib.indexByte (s.extract (n - f.size) s.size).data.toList c.toNat.toUInt8 = r) := by show _ = _; rw [Lib.extract_to_end]; exact hr
    have hrc : r = -1 ∨ ∃ k : Nat, r = k ∧ k < s.size := by
      rcases idx_cases (s.data.toList.drop (n - f.size)) c.toNat.toUInt8 with h | ⟨k, h, hk⟩
      · exact .inl (by rw [← hr]; exact h)
      · exact .inr ⟨k, by rw [← hr]; exact h, by rw [List.length_drop, ← Lib.size_eq] at hk; omega⟩
    clear hr
    rcases hrc with rfl | ⟨k, rfl, hk⟩
    · go_enter Trym.func11, Trym.ntmps11
      go_wp2_with fail
      refine (index_any _ c _ _ HR.out).mono ?_
      rintro e w' ⟨rfl, rfl⟩
      go_wp2
      go_ret
      exact ⟨⟨_, rfl, by simpa using HJ.out⟩, rfl⟩
    · go_enter Trym.func11, Trym.ntmps11
      go_wp2_with fail
      refine (index_any _ c _ _ HR.out).mono ?_
      rintro e w' ⟨rfl, rfl⟩
      go_wp2
      go_ret
      refine ⟨⟨_, rfl, ?_⟩, rfl⟩
      have := HJ.out
      rw [if_neg (by omega)] at this
      exact this

/-- ZZSplitNameIndex. -/
theorem zz_any (f s : ByteArray) (c : Int) (n : Nat) (w : World) (hf : f.size ≤ 1048576) (hs : s.size ≤ 1048576) (hn : n ≤ f.size + s.size) :
    Calls Trym.prog 7 #[.string f, .string s, .int .u8 c, .int .i64 n] w fun e w' =>
      (∃ r, e = .returned (.int .i64 r) ∧ IsFirst (f.data.toList ++ s.data.toList) c.toNat.toUInt8 n r) ∧ w' = w.alloc (.cells #[.string f, .string s] 26) := by
  go_enter Trym.func7, Trym.ntmps7
  go_wp2_with fail
  refine (split_any f s c n _ hf hs hn).mono ?_
  rintro e w' ⟨⟨r, rfl, hr⟩, rfl⟩
  have HR := hide hr
  clear hr
  go_wp2
  go_ret
  exact ⟨⟨_, rfl, HR.out⟩, rfl⟩

/-- The bound that the program laid: 5 parameters. -/
theorem zb10 (f s : ByteArray) (c n m : Int) (w : World) (hf : f.size ≤ maxLen) (hs : s.size ≤ maxLen) :
    Calls Trym.prog 10 #[.string f, .string s, .int .u8 c, .int .i64 n, .int .i64 m] w fun e w' => e = .returned (.bool (decide (f.size + s.size ≤ 1048576))) ∧ w = w' := by
  unfold maxLen at hf hs
  by_cases h1 : 1048576 < f.size
  · have hd : decide (f.size + s.size ≤ 1048576) = false := decide_eq_false (by omega)
    rw [hd]
    clear hd
    go_enter Trym.func10, Trym.ntmps10
    go_wp2
    go_ret
    exact ⟨rfl, rfl⟩
  · by_cases h2 : 1048576 < s.size
    · have hd : decide (f.size + s.size ≤ 1048576) = false := decide_eq_false (by omega)
      rw [hd]
      clear hd
      go_enter Trym.func10, Trym.ntmps10
      go_wp2
      go_ret
      exact ⟨rfl, rfl⟩
    · by_cases h3 : 1048576 < f.size + s.size
      · have hd : decide (f.size + s.size ≤ 1048576) = false := decide_eq_false (by omega)
        rw [hd]
        clear hd
        go_enter Trym.func10, Trym.ntmps10
        go_wp2
        go_ret
        exact ⟨rfl, rfl⟩
      · have hd : decide (f.size + s.size ≤ 1048576) = true := decide_eq_true (by omega)
        rw [hd]
        clear hd
        go_enter Trym.func10, Trym.ntmps10
        go_wp2
        go_ret
        exact ⟨rfl, rfl⟩

/-- The bound that the program laid: 4 parameters. -/
theorem zb6 (f s : ByteArray) (c n : Int) (w : World) (hf : f.size ≤ maxLen) (hs : s.size ≤ maxLen) :
    Calls Trym.prog 6 #[.string f, .string s, .int .u8 c, .int .i64 n] w fun e w' => e = .returned (.bool (decide (f.size + s.size ≤ 1048576))) ∧ w = w' := by
  unfold maxLen at hf hs
  by_cases h1 : 1048576 < f.size
  · have hd : decide (f.size + s.size ≤ 1048576) = false := decide_eq_false (by omega)
    rw [hd]
    clear hd
    go_enter Trym.func6, Trym.ntmps6
    go_wp2
    go_ret
    exact ⟨rfl, rfl⟩
  · by_cases h2 : 1048576 < s.size
    · have hd : decide (f.size + s.size ≤ 1048576) = false := decide_eq_false (by omega)
      rw [hd]
      clear hd
      go_enter Trym.func6, Trym.ntmps6
      go_wp2
      go_ret
      exact ⟨rfl, rfl⟩
    · by_cases h3 : 1048576 < f.size + s.size
      · have hd : decide (f.size + s.size ≤ 1048576) = false := decide_eq_false (by omega)
        rw [hd]
        clear hd
        go_enter Trym.func6, Trym.ntmps6
        go_wp2
        go_ret
        exact ⟨rfl, rfl⟩
      · have hd : decide (f.size + s.size ≤ 1048576) = true := decide_eq_true (by omega)
        rw [hd]
        clear hd
        go_enter Trym.func6, Trym.ntmps6
        go_wp2
        go_ret
        exact ⟨rfl, rfl⟩

end Go.Proofs.Qxb6601191aMods
