/-
  THE PLAIN MATHEMATICS OF 'the first c at or after from', over lists of bytes: no Go in sight.
-/
import Derived.Lib.Bytealg
namespace Go.Proofs.Qxb6601191aMods.Plain
open Go

/-- r is the first place at or after 'n' where l holds c; or -1. -/
def IsFirst (l : List UInt8) (c : UInt8) (n : Nat) (r : Int) : Prop :=
  (r = -1 ∧ ∀ i, n ≤ i → l[i]? ≠ some c) ∨ ∃ k : Nat, r = k ∧ n ≤ k ∧ l[k]? = some c ∧ ∀ i, n ≤ i → i < k → l[i]? ≠ some c

theorem idx_spec (l : List UInt8) (c : UInt8) : IsFirst l c 0 (Lib.indexByte l c) := by
  induction l with
  | nil => exact .inl ⟨rfl, fun i _ => by simp⟩
  | cons b l ih =>
    unfold Lib.indexByte
    by_cases hb : b = c
    · subst hb
      rw [if_pos (by simp)]
      exact .inr ⟨0, rfl, Nat.le_refl _, by simp, fun i _ hi => absurd hi (by omega)⟩
    · rw [if_neg (by simpa using hb)]
      rcases ih with ⟨h1, h2⟩ | ⟨k, h1, _, h3, h4⟩
      · rw [if_pos (by simp [h1])]
        refine .inl ⟨rfl, fun i _ => ?_⟩
        cases i with
        | zero => simpa using hb
        | succ i => simpa using h2 i (Nat.zero_le _)
      · have hne : ¬ (Lib.indexByte l c == -1) = true := by rw [h1]; simp
        rw [if_neg hne, h1]
        refine .inr ⟨k + 1, by omega, Nat.zero_le _, by simpa using h3, fun i _ hi => ?_⟩
        cases i with
        | zero => simpa using hb
        | succ i => simpa using h4 i (Nat.zero_le _) (by omega)

theorem IsFirst.same {l : List UInt8} {c : UInt8} {n : Nat} {r s : Int} (h : IsFirst l c n r) (h' : IsFirst l c n s) : r = s := by
  rcases h with ⟨h1, h2⟩ | ⟨k, h1, h2, h3, h4⟩
  · rcases h' with ⟨g1, _⟩ | ⟨j, _, g2, g3, _⟩
    · rw [h1, g1]
    · exact absurd g3 (h2 j g2)
  · rcases h' with ⟨g1, g2⟩ | ⟨j, g1, g2, g3, g4⟩
    · exact absurd h3 (g2 k h2)
    · have a1 : ¬ k < j := fun h => g4 k h2 h h3
      have a2 : ¬ j < k := fun h => h4 j g2 h g3
      omega

/-- What a later start finds. -/
theorem IsFirst.later {l : List UInt8} {c : UInt8} {n m : Nat} {r s : Int} (h : IsFirst l c n r) (h' : IsFirst l c m s) (hnm : n ≤ m) :
    (r < 0 → s = -1) ∧ (0 ≤ r → (m : Int) ≤ r → s = r) ∧ (0 ≤ r → ¬ (m : Int) ≤ r → s = -1 ∨ r < s) := by
  rcases h with ⟨h1, h2⟩ | ⟨k, h1, h2, h3, h4⟩
  · rcases h' with ⟨g1, _⟩ | ⟨j, _, g2, g3, _⟩
    · exact ⟨fun _ => g1, fun h => by omega, fun h => by omega⟩
    · exact absurd g3 (h2 j (by omega))
  · rcases h' with ⟨g1, g2⟩ | ⟨j, g1, g2, g3, g4⟩
    · exact ⟨fun h => by omega, fun _ hm => absurd h3 (g2 k (by omega)), fun _ _ => .inl g1⟩
    · refine ⟨fun h => by omega, fun _ hm => ?_, fun _ hm => .inr (by omega)⟩
      have a1 : ¬ k < j := fun h => g4 k (by omega) h h3
      have a2 : ¬ j < k := fun h => h4 j (by omega) h g3
      omega

/-- Found in the first part. -/
theorem join_first {l1 l2 : List UInt8} {c : UInt8} {n k : Nat} (h : Lib.indexByte (l1.drop n) c = (k : Int)) : IsFirst (l1 ++ l2) c n ((n : Int) + (k : Int)) := by
  have hs := idx_spec (l1.drop n) c
  rw [h] at hs
  rcases hs with ⟨h1, _⟩ | ⟨j, h1, _, h3, h4⟩
  · omega
  · obtain rfl : j = k := by omega
    rw [List.getElem?_drop] at h3
    have hlt : n + j < l1.length := (List.getElem?_eq_some_iff.1 h3).1
    refine .inr ⟨n + j, by omega, by omega, by rw [List.getElem?_append_left hlt]; exact h3, fun i hi hj => ?_⟩
    have := h4 (i - n) (Nat.zero_le _) (by omega)
    rw [List.getElem?_drop, show n + (i - n) = i by omega] at this
    rw [List.getElem?_append_left (by omega)]
    exact this

/-- Not in the first part: what the second says. -/
theorem join_second {l1 l2 : List UInt8} {c : UInt8} {n m : Nat} {r : Int} (h1 : ∀ i, n ≤ i → i < l1.length → l1[i]? ≠ some c) (hm : l1.length ≤ m) (hn : n ≤ m) (hnm : l1.length ≤ n → n = m) (hnm' : n < l1.length → m = l1.length)
    (h : Lib.indexByte (l2.drop (m - l1.length)) c = r) :
    IsFirst (l1 ++ l2) c n (if r < 0 then -1 else (m : Int) + r) := by
  have hs := idx_spec (l2.drop (m - l1.length)) c
  rw [h] at hs
  rcases hs with ⟨g1, g2⟩ | ⟨j, g1, _, g3, g4⟩
  · rw [g1, if_pos (by omega)]
    refine .inl ⟨rfl, fun i hi => ?_⟩
    by_cases hl : i < l1.length
    · rw [List.getElem?_append_left hl]; exact h1 i hi hl
    · rw [List.getElem?_append_right (by omega)]
      have := g2 (i - m) (Nat.zero_le _)
      rw [List.getElem?_drop] at this
      rw [show i - l1.length = m - l1.length + (i - m) by omega]
      exact this
  · rw [g1, if_neg (by omega)]
    rw [List.getElem?_drop] at g3
    refine .inr ⟨m + j, by omega, by omega, ?_, fun i hi hj => ?_⟩
    · rw [List.getElem?_append_right (by omega), show m + j - l1.length = m - l1.length + j by omega]
      exact g3
    · by_cases hl : i < l1.length
      · rw [List.getElem?_append_left hl]; exact h1 i hi hl
      · rw [List.getElem?_append_right (by omega)]
        have := g4 (i - m) (Nat.zero_le _) (by omega)
        rw [List.getElem?_drop] at this
        rw [show i - l1.length = m - l1.length + (i - m) by omega]
        exact this

theorem none_in {l1 : List UInt8} {c : UInt8} {n : Nat} (h : Lib.indexByte (l1.drop n) c = -1) : ∀ i, n ≤ i → i < l1.length → l1[i]? ≠ some c := by
  intro i hi _
  have hs := idx_spec (l1.drop n) c
  rw [h] at hs
  rcases hs with ⟨_, g2⟩ | ⟨j, g1, _⟩
  · have := g2 (i - n) (Nat.zero_le _)
    rw [List.getElem?_drop, show n + (i - n) = i by omega] at this
    exact this
  · omega

theorem idx_cases (l : List UInt8) (c : UInt8) : Lib.indexByte l c = -1 ∨ ∃ k : Nat, Lib.indexByte l c = k ∧ k < l.length := by
  rcases idx_spec l c with ⟨h, _⟩ | ⟨k, h, _, h3, _⟩
  · exact .inl h
  · exact .inr ⟨k, h, (List.getElem?_eq_some_iff.1 h3).1⟩

end Go.Proofs.Qxb6601191aMods.Plain
