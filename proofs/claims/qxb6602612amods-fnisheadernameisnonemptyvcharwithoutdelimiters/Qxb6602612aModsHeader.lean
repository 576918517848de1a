/-
  THE WALKS OF isHeaderName, ZZIsHeaderName AND THE LAW.
-/
import Derived.Test.Qxb6602612aModsWalks
namespace Go.Proofs.Qxb6602612aMods
open Go.RowKit

theorem name_upto (l : List UInt8) (k : Nat) (b : UInt8) (hb : l[k]? = some b) (ht : tokB b = false) : nameB l = false := by
  have hm : b ∈ l := List.mem_of_getElem? hb
  have : l.all tokB = false := by
    rw [List.all_eq_false]
    exact ⟨b, hm, by simp [ht]⟩
  simp [nameB, this]

theorem name_all (l : List UInt8) (h0 : l ≠ []) (h : ∀ (j : Nat) b, l[j]? = some b → tokB b = true) : nameB l = true := by
  have h1 : l.all tokB = true := by
    rw [List.all_eq_true]
    intro b hb
    obtain ⟨j, hj⟩ := List.getElem?_of_mem hb
    exact h j b hj
  have h2 : l.isEmpty = false := by cases l <;> simp_all
  simp [nameB, h1, h2]

theorem byte_get (s : ByteArray) (k : Nat) (h : k < s.size) : s.data.toList[k]? = some s[k] := by
  have h' : k < s.data.toList.length := by rw [← Lib.size_eq]; exact h
  rw [List.getElem?_eq_getElem h']
  rfl

theorem ranges (n : Nat) : (alnum n = true ∧ ((97 ≤ (n : Int) ∧ (n : Int) ≤ 122) ∨ (65 ≤ (n : Int) ∧ (n : Int) ≤ 90) ∨ (48 ≤ (n : Int) ∧ (n : Int) ≤ 57))) ∨
    (alnum n = false ∧ ((n : Int) < 48 ∨ (57 < (n : Int) ∧ (n : Int) < 65) ∨ (90 < (n : Int) ∧ (n : Int) < 97) ∨ 122 < (n : Int))) := by
  by_cases h : (97 ≤ (n : Int) ∧ (n : Int) ≤ 122) ∨ (65 ≤ (n : Int) ∧ (n : Int) ≤ 90) ∨ (48 ≤ (n : Int) ∧ (n : Int) ≤ 57)
  · refine .inl ⟨?_, h⟩
    simp [alnum]
    omega
  · refine .inr ⟨?_, by omega⟩
    simp [alnum]
    omega

theorem upto_step {l : List UInt8} {k : Nat} {b : UInt8} (h : ∀ (j : Nat) b, j < k → l[j]? = some b → tokB b = true) (hb : l[k]? = some b) (ht : tokB b = true) : ∀ (j : Nat) b, j < k + 1 → l[j]? = some b → tokB b = true := by
  intro j c hj hc
  by_cases e : j = k
  · subst e
    rw [hb] at hc
    exact Option.some.inj hc ▸ ht
  · exact h j c (by omega) hc

set_option maxHeartbeats 1000000 in
theorem head_some (s : ByteArray) (w : World) (hs : s.size ≤ 1048576) (h0 : 0 < s.size) :
    Calls Trym.prog 16 #[.string s] w fun e w' => e = .returned (.bool (nameB s.data.toList)) ∧ w = w' := by
  have hne : s.toList.isEmpty = false := by
    rw [Lib.toList_data]
    have : s.data.toList.length = s.size := (Lib.size_eq s).symm
    cases h : s.data.toList with
    | nil => rw [h] at this; simp at this; omega
    | cons a l => rfl
  obtain ⟨t, ht⟩ : ∃ t, nameB s.data.toList = t := ⟨_, rfl⟩
  rw [ht]
  have HT := hide ht
  clear ht
  go_enter Trym.func16, Trym.ntmps16
  go_wp2
  go_loop [10] (fun i => ∃ k : Nat, k ≤ s.size ∧ i = .int .i64 k ∧ Hid (∀ j b, j < k → s.data.toList[j]? = some b → tokB b = true)) (fun i => s.size - (intOf i).toNat)
  case atStart => exact ⟨0, Nat.zero_le _, rfl, fun j b h => by omega⟩
  case round =>
    obtain ⟨k, hk, rfl, HJ⟩ := hrel
    by_cases hlt : k < s.size
    · have HG := hide (byte_get s k hlt)
      have HTB := hide (table_byte s[k])
      have hsplit : (alnum s[k].toNat = true ∧ ((97 ≤ (s[k].toNat : Int) ∧ (s[k].toNat : Int) ≤ 122) ∨ (65 ≤ (s[k].toNat : Int) ∧ (s[k].toNat : Int) ≤ 90) ∨ (48 ≤ (s[k].toNat : Int) ∧ (s[k].toNat : Int) ≤ 57))) ∨
          (alnum s[k].toNat = false ∧ ((s[k].toNat : Int) < 48 ∨ (57 < (s[k].toNat : Int) ∧ (s[k].toNat : Int) < 65) ∨ (90 < (s[k].toNat : Int) ∧ (s[k].toNat : Int) < 97) ∨ 122 < (s[k].toNat : Int))) := ranges _
      have e57 : 57 < (s[k].toNat : Int) → decide ((s[k].toNat : Int) ≤ 57) = false := fun h => decide_eq_false (by omega)
      have e90 : 90 < (s[k].toNat : Int) → decide ((s[k].toNat : Int) ≤ 90) = false := fun h => decide_eq_false (by omega)
      have e122 : 122 < (s[k].toNat : Int) → decide ((s[k].toNat : Int) ≤ 122) = false := fun h => decide_eq_false (by omega)
      have E57 := hide e57
      have E90 := hide e90
      have E122 := hide e122
      clear e57 e90 e122
      rcases hsplit with ⟨hal, hr⟩ | ⟨hal, hr⟩
      · have HY : Hid (tokB s[k] = true) := by show _ = _; rw [← HTB.out, hal]; rfl
        clear hal HTB
        rcases hr with ⟨a1, a2⟩ | ⟨a1, a2⟩ | ⟨a1, a2⟩
        all_goals
          go_wp2
          go_round
          case rel => exact ⟨k + 1, by omega, by go_num, upto_step HJ.out HG.out HY.out⟩
          case measure => simp [intOf]; omega
      · obtain ⟨r, hri⟩ : ∃ r, Lib.indexByte punct.data.toList s[k] = r := ⟨_, rfl⟩
        have HI : Hid (Lib.indexByte punct.data.toList (s[k].toNat : Int).toNat.toUInt8 = r) := by show _ = _; rw [← hri]; congr 1; simp
        have HY : Hid (tokB s[k] = decide (0 ≤ r)) := by show _ = _; rw [← HTB.out, hal, hri]; rfl
        clear hal HTB hri
        by_cases hr0 : 0 ≤ r
        · have HY' : Hid (tokB s[k] = true) := by show _ = _; rw [HY.out]; simpa using hr0
          clear HY
          rcases hr with a1 | ⟨a1, a2⟩ | ⟨a1, a2⟩ | a1
          all_goals
            try have d1 := E57.out (by omega)
            try have d2 := E90.out (by omega)
            try have d3 := E122.out (by omega)
            go_wp2_with fail
            refine (index_any punct _ r _ HI.out).mono ?_
            rintro e w' ⟨rfl, rfl⟩
            go_wp2
            go_round
            case rel => exact ⟨k + 1, by omega, by go_num, upto_step HJ.out HG.out HY'.out⟩
            case measure => simp [intOf]; omega
        · have HY' : Hid (t = false) := by show _ = _; rw [← HT.out]; exact name_upto _ k _ HG.out (by rw [HY.out]; simpa using hr0)
          clear HY
          rcases hr with a1 | ⟨a1, a2⟩ | ⟨a1, a2⟩ | a1
          all_goals
            try have d1 := E57.out (by omega)
            try have d2 := E90.out (by omega)
            try have d3 := E122.out (by omega)
            go_wp2_with fail
            refine (index_any punct _ r _ HI.out).mono ?_
            rintro e w' ⟨rfl, rfl⟩
            go_wp2
            go_ret
            rw [HY'.out]
            exact ⟨rfl, rfl⟩
    · have HY : Hid (t = true) := by
        show _ = _
        rw [← HT.out]
        refine name_all _ (fun e => ?_) (fun j b hj => HJ.out j b ?_ hj)
        · have := Lib.size_eq s
          rw [e] at this
          simp only [List.length_nil] at this
          omega
        · have := (List.getElem?_eq_some_iff.1 hj).1
          rw [← Lib.size_eq] at this
          omega
      go_wp2
      go_ret
      rw [HY.out]
      exact ⟨rfl, rfl⟩

theorem head_none (w : World) : Calls Trym.prog 16 #[.string ByteArray.empty] w fun e w' => e = .returned (.bool false) ∧ w = w' := by
  go_enter Trym.func16, Trym.ntmps16
  go_wp2
  go_ret
  exact ⟨rfl, rfl⟩

theorem head_any (s : ByteArray) (w : World) (hs : s.size ≤ 1048576) :
    Calls Trym.prog 16 #[.string s] w fun e w' => e = .returned (.bool (nameB s.data.toList)) ∧ w = w' := by
  by_cases h0 : 0 < s.size
  · exact head_some s w hs h0
  · have e : s = ByteArray.empty := by
      apply ByteArray.ext
      have h1 : s.data.size = 0 := by have : s.data.size = s.size := rfl; omega
      exact Array.eq_empty_of_size_eq_zero h1
    subst e
    exact head_none w

theorem zz_any (s : ByteArray) (w : World) (hs : s.size ≤ 1048576) :
    Calls Trym.prog 10 #[.string s] w fun e w' => e = .returned (.bool (nameB s.data.toList)) ∧ w = w' := by
  obtain ⟨t, ht⟩ : ∃ t, nameB s.data.toList = t := ⟨_, rfl⟩
  have k := head_any s w hs
  rw [ht] at k ⊢
  have K := hide k
  clear k ht
  go_enter Trym.func10, Trym.ntmps10
  go_wp2_with fail
  refine K.out.mono ?_
  rintro e w' ⟨rfl, rfl⟩
  go_wp2
  go_ret
  exact ⟨rfl, rfl⟩

theorem zb8_small (s : ByteArray) (w : World) (h : s.size ≤ 1048576) : Calls Trym.prog 8 #[.string s] w fun e w' => e = .returned (.bool true) ∧ w = w' := by
  go_enter Trym.func8, Trym.ntmps8
  go_wp2
  go_ret
  exact ⟨rfl, rfl⟩

theorem zb8_big (s : ByteArray) (w : World) (h : 1048576 < s.size) : Calls Trym.prog 8 #[.string s] w fun e w' => e = .returned (.bool false) ∧ w = w' := by
  go_enter Trym.func8, Trym.ntmps8
  go_wp2
  go_ret
  exact ⟨rfl, rfl⟩

theorem law_big (s : ByteArray) (w : World) (h : 1048576 < s.size) : Calls Trym.prog 3 #[.string s] w fun e w' => e = .returned (.bool true) ∧ Grown w w' := by
  go_enter Trym.func3, Trym.ntmps3
  go_wp2_with fail
  refine (zb8_big s _ h).mono ?_
  rintro e w' ⟨rfl, rfl⟩
  go_wp2
  go_ret
  exact ⟨rfl, Grown.refl _⟩

/-- What the law's own loop has gathered after k rounds. -/
def wantB (l : List UInt8) (k : Nat) : Bool := decide (0 < l.length) && (l.take k).all tokB

theorem want_zero (l : List UInt8) : wantB l 0 = decide (0 < l.length) := by simp [wantB]

theorem want_step (l : List UInt8) (k : Nat) (b : UInt8) (h : l[k]? = some b) : wantB l (k + 1) = (wantB l k && tokB b) := by
  have hk : k < l.length := (List.getElem?_eq_some_iff.1 h).1
  have e : l.take (k + 1) = l.take k ++ [b] := by
    rw [List.take_succ_eq_append_getElem hk]
    have := (List.getElem?_eq_some_iff.1 h).2
    rw [this]
  simp [wantB, e, Bool.and_assoc]

theorem want_all (l : List UInt8) : wantB l l.length = nameB l := by
  cases l <;> simp [wantB, nameB]

set_option maxHeartbeats 400000 in
theorem law_small (s : ByteArray) (w : World) (hs : s.size ≤ 1048576) : Calls Trym.prog 3 #[.string s] w fun e w' => e = .returned (.bool true) ∧ Grown w w' := by
  have hsz := Lib.size_eq s
  have HZ := hide hsz
  have HW0 : Hid (decide (0 < s.size) = wantB s.data.toList 0) := by show _ = _; rw [want_zero, ← hsz]
  clear hsz
  have d10 : decide ((1048576 : Int) < (s.size : Int)) = false := decide_eq_false (by omega)
  go_enter Trym.func3, Trym.ntmps3
  go_wp2_with fail
  refine (zb8_small s _ hs).mono ?_
  rintro e w' ⟨rfl, rfl⟩
  go_wp2
  go_loop [3, 4] (fun t i => ∃ k : Nat, k ≤ s.size ∧ i = .int .i64 k ∧ t = .bool (wantB s.data.toList k)) (fun _ i => s.size - (intOf i).toNat)
  case atStart => exact ⟨0, Nat.zero_le _, rfl, by rw [← HW0.out]⟩
  case round =>
    obtain ⟨k, hk, rfl, rfl⟩ := hrel
    by_cases hlt : k < s.size
    · have HG := hide (want_step _ k _ (byte_get s k hlt))
      have ht := tok_any (s[k].toNat : Int) w
      obtain ⟨t, htt⟩ : ∃ t, tokB s[k] = t := ⟨_, rfl⟩
      have e2 : tokI (s[k].toNat : Int) = t := htt
      rw [e2] at ht
      have HT := hide ht
      have HTT := hide htt
      clear ht htt e2
      generalize wantB s.data.toList k = v at HG
      cases t
      · go_wp2_with fail
        refine HT.out.mono ?_
        rintro e w' ⟨rfl, rfl⟩
        go_wp2
        go_round
        case rel => exact ⟨k + 1, by omega, by go_num, by rw [HG.out, HTT.out]; simp⟩
        case measure => simp [intOf]; omega
      · go_wp2_with fail
        refine HT.out.mono ?_
        rintro e w' ⟨rfl, rfl⟩
        go_wp2
        go_round
        case rel => exact ⟨k + 1, by omega, by go_num, by rw [HG.out, HTT.out]; simp⟩
        case measure => simp [intOf]; omega
    · obtain rfl : k = s.size := by omega
      have hk := zz_any s w hs
      have e1 : wantB s.data.toList s.size = nameB s.data.toList := by
        have := want_all s.data.toList
        rwa [← HZ.out] at this
      rw [e1]
      generalize nameB s.data.toList = v at hk
      have HK := hide hk
      have hvv : (v == v) = true := by simp
      clear hk e1
      go_wp2_with fail
      refine HK.out.mono ?_
      rintro e w' ⟨rfl, rfl⟩
      go_wp2
      go_ret
      exact ⟨rfl, Grown.refl _⟩

end Go.Proofs.Qxb6602612aMods
