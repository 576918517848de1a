/-
  THE WALKS OF zzRouteB1ByteAt, zzRouteB1Model AND FnSplitNameIndexIsFirstMatchOfJoin.
-/
import Derived.Test.Qxb6601191aModsWalks
namespace Go.Proofs.Qxb6601191aMods
open Go.RowKit Plain

theorem get_left (f s : ByteArray) (i : Nat) (h : i < f.size) : (f.data.toList ++ s.data.toList)[i]? = some f[i] := by
  have h' : i < f.data.toList.length := by rw [← Lib.size_eq]; exact h
  rw [List.getElem?_append_left h', List.getElem?_eq_getElem h']
  rfl

theorem get_right (f s : ByteArray) (i : Nat) (h : ¬ i < f.size) (h2 : i - f.size < s.size) : (f.data.toList ++ s.data.toList)[i]? = some s[i - f.size] := by
  have h' : i - f.size < s.data.toList.length := by rw [← Lib.size_eq]; exact h2
  rw [List.getElem?_append_right (by rw [← Lib.size_eq]; omega), ← Lib.size_eq, List.getElem?_eq_getElem h']
  rfl

/-- zzRouteB1ByteAt. -/
theorem byte_any (f s : ByteArray) (i : Nat) (w : World) (_hf : f.size ≤ 1048576) (hs : s.size ≤ 1048576) (hi : i < f.size + s.size) :
    Calls Trym.prog 12 #[.string f, .string s, .int .i64 i] w fun e w' => (∃ b : UInt8, (f.data.toList ++ s.data.toList)[i]? = some b ∧ e = .returned (.int .u8 (b.toNat : Int))) ∧ w = w' := by
  by_cases hlt : i < f.size
  · have H := hide (get_left f s i hlt)
    go_enter Trym.func12, Trym.ntmps12
    go_wp2
    go_ret
    exact ⟨⟨_, H.out, rfl⟩, rfl⟩
  · have h2 : i - f.size < s.size := by omega
    have H := hide (get_right f s i hlt h2)
    go_enter Trym.func12, Trym.ntmps12
    go_wp2
    go_ret
    exact ⟨⟨_, H.out, rfl⟩, rfl⟩

theorem byte_is {b : UInt8} {c : Int} (h : (b.toNat : Int) = c) : b = c.toNat.toUInt8 := by
  subst h
  simp

theorem byte_not {b : UInt8} {c : Int} (h : ¬ (b.toNat : Int) = c) (hc : 0 ≤ c ∧ c ≤ 255) : some b ≠ some c.toNat.toUInt8 := by
  intro e
  have e' := Option.some.inj e
  subst e'
  apply h
  simp
  omega

set_option maxHeartbeats 400000 in
/-- zzRouteB1Model. -/
theorem model_any (f s : ByteArray) (c : Int) (n : Nat) (w : World) (hf : f.size ≤ 1048576) (hs : s.size ≤ 1048576) (hn : n ≤ f.size + s.size) (hc : 0 ≤ c ∧ c ≤ 255) :
    Calls Trym.prog 8 #[.string f, .string s, .int .u8 c, .int .i64 n] w fun e w' => (∃ r, e = .returned (.int .i64 r) ∧ IsFirst (f.data.toList ++ s.data.toList) c.toNat.toUInt8 n r) ∧ w = w' := by
  have hlen : Hid ((f.data.toList ++ s.data.toList).length = f.size + s.size) := by show _ = _; rw [List.length_append, ← Lib.size_eq, ← Lib.size_eq]
  have HC := hide hc
  clear hc
  go_enter Trym.func8, Trym.ntmps8
  go_wp2
  go_loop [10] (fun i => ∃ k : Nat, n ≤ k ∧ k ≤ f.size + s.size ∧ i = .int .i64 k ∧ Hid (∀ j, n ≤ j → j < k → (f.data.toList ++ s.data.toList)[j]? ≠ some c.toNat.toUInt8)) (fun i => f.size + s.size - (intOf i).toNat)
  case atStart => exact ⟨n, Nat.le_refl _, hn, rfl, fun j h1 h2 => by omega⟩
  case round =>
    obtain ⟨k, hnk, hk, rfl, HJ⟩ := hrel
    by_cases hlt : k < f.size + s.size
    · have hlt' : (k : Int) < (f.size : Int) + (s.size : Int) := by omega
      go_wp2_with fail
      refine (byte_any f s k _ hf hs hlt).mono ?_
      rintro e w' ⟨⟨b, hb, rfl⟩, rfl⟩
      have HB := hide hb
      clear hb
      by_cases hbc : (b.toNat : Int) = c
      · have hbq : ((b.toNat : Int) == c) = true := by rw [beq_iff_eq]; exact hbc
        have HBC := hide hbc
        clear hbc
        go_wp2
        go_ret
        refine ⟨⟨_, rfl, .inr ⟨k, rfl, hnk, ?_, HJ.out⟩⟩, rfl⟩
        rw [HB.out, byte_is HBC.out]
      · have hbq : ((b.toNat : Int) == c) = false := by rw [beq_eq_false_iff_ne]; exact hbc
        have HBC := hide hbc
        clear hbc
        go_wp2
        go_round
        case rel =>
          refine ⟨k + 1, by omega, by omega, by go_num, fun j h1 h2 => ?_⟩
          by_cases hj : j = k
          · subst hj
            rw [HB.out]
            exact byte_not HBC.out HC.out
          · exact HJ.out j h1 (by omega)
        case measure => simp [intOf]; omega
    · have hlt' : ¬ (k : Int) < (f.size : Int) + (s.size : Int) := by omega
      go_wp2
      go_ret
      refine ⟨⟨_, rfl, .inl ⟨rfl, fun i hi => ?_⟩⟩, rfl⟩
      by_cases hik : i < k
      · exact HJ.out i hi hik
      · rw [List.getElem?_eq_none (by rw [hlen.out]; omega)]
        simp

theorem first_out (f s : ByteArray) (c n : Int) (w : World) (hf : f.size ≤ maxLen) (hs : s.size ≤ maxLen) (h : ¬ f.size + s.size ≤ 1048576) :
    Calls Trym.prog 3 #[.string f, .string s, .int .u8 c, .int .i64 n] w fun e w' => e = .returned (.bool true) ∧ Grown w w' := by
  have k := zb6 f s c n w hf hs
  rw [decide_eq_false h] at k
  have K := hide k
  clear k
  go_enter Trym.func3, Trym.ntmps3
  go_wp2_with fail
  refine K.out.mono ?_
  rintro e w' ⟨rfl, rfl⟩
  go_wp2
  go_ret
  exact ⟨rfl, Grown.refl _⟩

set_option maxHeartbeats 400000 in
theorem first_in (f s : ByteArray) (c n : Int) (w : World) (hc : 0 ≤ c ∧ c ≤ 255) (h : f.size + s.size ≤ 1048576) :
    Calls Trym.prog 3 #[.string f, .string s, .int .u8 c, .int .i64 n] w fun e w' => e = .returned (.bool true) ∧ Grown w w' := by
  have k := zb6 f s c n w (by unfold maxLen; omega) (by unfold maxLen; omega)
  rw [decide_eq_true h] at k
  have K := hide k
  clear k
  have hf : f.size ≤ 1048576 := by omega
  have hs : s.size ≤ 1048576 := by omega
  by_cases h1 : n < 0
  · go_enter Trym.func3, Trym.ntmps3
    go_wp2_with fail
    refine K.out.mono ?_
    rintro e w' ⟨rfl, rfl⟩
    go_wp2
    go_ret
    exact ⟨rfl, Grown.refl _⟩
  obtain ⟨n, rfl⟩ := Int.eq_ofNat_of_zero_le (by omega : 0 ≤ n)
  by_cases h2 : f.size + s.size < n
  · have h2' : (f.size : Int) + (s.size : Int) < (n : Int) := by omega
    go_enter Trym.func3, Trym.ntmps3
    go_wp2_with fail
    refine K.out.mono ?_
    rintro e w' ⟨rfl, rfl⟩
    go_wp2
    go_ret
    exact ⟨rfl, Grown.refl _⟩
  have HC := hide hc
  clear hc h1
  go_enter Trym.func3, Trym.ntmps3
  go_wp2_with fail
  refine K.out.mono ?_
  rintro e w' ⟨rfl, rfl⟩
  clear K
  go_wp2_with fail
  refine (zz_any f s c n _ hf hs (by omega)).mono ?_
  rintro e w' ⟨⟨r, rfl, hr⟩, rfl⟩
  have HR := hide hr
  clear hr
  go_wp2_with fail
  refine (model_any f s c n _ hf hs (by omega) HC.out).mono ?_
  rintro e w' ⟨⟨t, rfl, ht⟩, rfl⟩
  obtain rfl := IsFirst.same HR.out ht
  clear ht HR
  have hrr : (r == r) = true := by simp
  go_wp2
  go_ret
  exact ⟨rfl, Grown.alloc (Grown.refl _) _ _⟩

end Go.Proofs.Qxb6601191aMods
