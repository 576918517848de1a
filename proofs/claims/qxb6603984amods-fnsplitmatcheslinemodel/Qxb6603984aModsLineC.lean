/-
  THE PLAIN LAWS OF A ROUND OF THE LINE MODEL; rows that are parts of rows.
-/
import Derived.Test.Qxb6603984aModsLineB
namespace Go.Proofs.Qxb6603984aMods
open Go.RowKit Plain

theorem seg_split (z : List Int) (pos k : Nat) (h1 : pos ≤ k) : z.drop pos = (z.drop pos).take (k - pos) ++ z.drop k := by
  have h := (List.take_append_drop (k - pos) (z.drop pos)).symm
  rw [List.drop_drop, show pos + (k - pos) = k by omega] at h
  exact h

theorem seg_len (z : List Int) (pos k : Nat) (h2 : k ≤ z.length) : ((z.drop pos).take (k - pos)).length = k - pos := by
  rw [List.length_take, List.length_drop]
  omega

theorem seg_no (z : List Int) (pos k : Nat) (h : ∀ j, pos ≤ j → j < k → z.getD j 0 ≠ 10) : ∀ c ∈ (z.drop pos).take (k - pos), c ≠ 10 := by
  intro c hc
  obtain ⟨i, hi, rfl⟩ := List.mem_iff_getElem.1 hc
  have hi' : i < k - pos ∧ i < z.length - pos := by
    rw [List.length_take, List.length_drop] at hi
    omega
  have := h (pos + i) (by omega) (by omega)
  rw [List.getElem_take, List.getElem_drop]
  have e : z.getD (pos + i) 0 = z[pos + i]'(by omega) := by simp [List.getD, show pos + i < z.length by omega]
  rw [← e]
  exact this

theorem drop_at (z : List Int) (k : Nat) (h : k < z.length) (h10 : z.getD k 0 = 10) : z.drop k = 10 :: z.drop (k + 1) := by
  rw [List.drop_eq_getElem_cons h]
  have e : z.getD k 0 = z[k] := by simp [List.getD, h]
  rw [← e, h10]

theorem first_len (head seg : List Int) (hl : Nat) (h : head.length = min hl 5) : (firstL head seg).length = min (hl + seg.length) 5 := by
  simp only [firstL, List.length_append, List.length_take]
  omega

theorem first_bytes (head seg : List Int) (h1 : ∀ x ∈ head, 0 ≤ x ∧ x ≤ 255) (h2 : ∀ x ∈ seg, 0 ≤ x ∧ x ≤ 255) : ∀ x ∈ firstL head seg, 0 ≤ x ∧ x ≤ 255 := by
  intro x hx
  rcases List.mem_append.1 hx with hx | hx
  · exact h1 x hx
  · exact h2 x (List.mem_of_mem_take hx)

theorem pay_bytes (pay head seg : List Int) (h1 : ∀ x ∈ pay, 0 ≤ x ∧ x ≤ 255) (h2 : ∀ x ∈ seg, 0 ≤ x ∧ x ≤ 255) : ∀ x ∈ payL pay head seg, 0 ≤ x ∧ x ≤ 255 := by
  intro x hx
  unfold payL at hx
  split at hx
  · rcases List.mem_append.1 hx with hx | hx
    · exact h1 x hx
    · exact h2 x (List.mem_of_mem_drop hx)
  · exact h1 x hx

theorem pay_len (pay head seg : List Int) : (payL pay head seg).length ≤ pay.length + seg.length := by
  unfold payL
  split
  · rw [List.length_append, List.length_drop]; omega
  · omega

/-- The end of the bytes. -/
theorem model_end (S0 : Sc) (hl : Nat) (head pay z : List Int) (pos : Nat) (L : Nat) (F : List Int) (T : Sc) (n : Nat) (ok : Bool) (dl : Nat) (hh : head.length ≤ 5)
    (h : (⟨⟨L, F, T⟩, n, ok, dl⟩ : Out) = (splitL ⟨hl, head, feedL S0 pay⟩ (z.drop pos)).more pos) (h1 : pos ≤ z.length) (seg : List Int) (hs : seg = (z.drop pos).take (z.length - pos)) (hn : ∀ c ∈ seg, c ≠ 10) :
    L = hl + seg.length ∧ F = firstL head seg ∧ T = feedL S0 (payL pay head seg) ∧ n = z.length ∧ ok = false ∧ dl = 0 := by
  have e : z.drop pos = seg := by rw [hs, List.take_of_length_le (by rw [List.length_drop]; omega)]
  have hl' : seg.length = z.length - pos := by rw [← e, List.length_drop]
  rw [e, last_model S0 hl head pay seg hh hn] at h
  simp only [Out.more, Out.mk.injEq, Ev.mk.injEq] at h
  obtain ⟨⟨h1, h2, h3⟩, h4, h5, h6⟩ := h
  exact ⟨h1, h2, h3, by omega, h5, h6⟩

theorem model_line (S0 : Sc) (hl : Nat) (head pay z : List Int) (pos k : Nat) (L : Nat) (F : List Int) (T : Sc) (n : Nat) (ok : Bool) (dl : Nat) (hh : head.length ≤ 5)
    (h : (⟨⟨L, F, T⟩, n, ok, dl⟩ : Out) = (splitL ⟨hl, head, feedL S0 pay⟩ (z.drop pos)).more pos) (h1 : pos ≤ k) (h2 : k < z.length) (h10 : z.getD k 0 = 10) (seg : List Int) (hs : seg = (z.drop pos).take (k - pos)) (hn : ∀ c ∈ seg, c ≠ 10) :
    (blankE ⟨hl + seg.length, firstL head seg, feedL S0 (payL pay head seg)⟩ = true → L = 0 ∧ F = [] ∧ T = feedL S0 (payL pay head seg) ∧ n = k + 1 ∧ ok = true ∧ dl = hl + seg.length + 1) ∧
    (blankE ⟨hl + seg.length, firstL head seg, feedL S0 (payL pay head seg)⟩ = false → (⟨⟨L, F, T⟩, n, ok, dl⟩ : Out) = (splitL ⟨0, [], feedL S0 (payL pay head seg)⟩ (z.drop (k + 1))).more (k + 1)) := by
  have e : z.drop pos = seg ++ 10 :: z.drop (k + 1) := by rw [hs, ← drop_at z k h2 h10]; exact seg_split z pos k h1
  have hl' : seg.length = k - pos := by rw [hs]; exact seg_len z pos k (by omega)
  rw [e, line_model S0 hl head pay seg _ hh hn] at h
  refine ⟨fun hb => ?_, fun hb => ?_⟩
  · rw [if_pos hb] at h
    simp only [Out.more, Out.mk.injEq, Ev.mk.injEq] at h
    obtain ⟨⟨h1, h2, h3⟩, h4, h5, h6⟩ := h
    exact ⟨h1, h2, h3, by omega, h5, h6⟩
  · rw [if_neg (by rw [hb]; decide), more_more, show seg.length + 1 + pos = k + 1 by omega] at h
    exact h

theorem blank_0 (a b : Nat) (f : List Int) (S : Sc) (h : (a : Int) + (b : Int) = 0) : blankE ⟨a + b, f, S⟩ = true := by
  have e : a + b = 0 := by omega
  simp only [blankE, e, beq_self_eq_true, Bool.true_or]

theorem blank_1 (a b : Nat) (f : List Int) (S : Sc) (h : (a : Int) + (b : Int) = 1) (h' : f.getD 0 0 = 13) : blankE ⟨a + b, f, S⟩ = true := by
  have e : a + b = 1 := by omega
  simp only [blankE, e, h', beq_self_eq_true, Bool.and_self, Bool.or_true]

theorem blank_n1 (a b : Nat) (f : List Int) (S : Sc) (h : (a : Int) + (b : Int) = 1) (h' : ¬ f.getD 0 0 = 13) : blankE ⟨a + b, f, S⟩ = false := by
  have e : a + b = 1 := by omega
  have e' : (f.getD 0 0 == 13) = false := by rw [beq_eq_false_iff_ne]; exact h'
  simp only [blankE, e, e', Bool.and_false, Bool.or_false]
  rfl

theorem blank_n (a b : Nat) (f : List Int) (S : Sc) (h : ¬ (a : Int) + (b : Int) = 0) (h' : ¬ (a : Int) + (b : Int) = 1) : blankE ⟨a + b, f, S⟩ = false := by
  have e : (a + b == 0) = false := by rw [beq_eq_false_iff_ne]; omega
  have e' : (a + b == 1) = false := by rw [beq_eq_false_iff_ne]; omega
  simp only [blankE, e, e', Bool.false_and, Bool.or_false]

theorem PRow.take_ {w : World} {a : Option Addr} {c : Nat} {xs : List Int} {F : Nat → Prop} (h : PRow w a c xs F) (k : Nat) : PRow w a c (xs.take k) F := by
  obtain ⟨h1, h2⟩ := h
  refine ⟨by simp; omega, ?_⟩
  rcases h2 with rfl | ⟨pb, off, rfl, hp, hf, hc⟩
  · exact .inl (by simp)
  · refine .inr ⟨pb, off, rfl, hp, hf, fun j hj => ?_⟩
    have hj' : j < k ∧ j < xs.length := by rw [List.length_take] at hj; omega
    rw [hc j hj'.2]
    simp [List.getD, hj'.1]

theorem PRow.drop_ {w : World} {pb off : Nat} {c : Nat} {xs : List Int} {F : Nat → Prop} (h : PRow w (some ⟨pb, off, none⟩) c xs F) (k : Nat) (hk : k ≤ xs.length) : PRow w (some ⟨pb, off + k, none⟩) (c - k) (xs.drop k) F := by
  obtain ⟨h1, h2⟩ := h
  refine ⟨by simp; omega, ?_⟩
  rcases h2 with rfl | ⟨pb', off', he, hp, hf, hc⟩
  · exact .inl (by simp)
  · simp at he
    obtain ⟨rfl, rfl⟩ := he
    refine .inr ⟨pb, off + k, rfl, hp, hf, fun j hj => ?_⟩
    have hj' : k + j < xs.length := by rw [List.length_drop] at hj; omega
    have := hc (k + j) hj'
    rw [Nat.add_assoc, this]
    simp [List.getD, List.getElem?_drop]

theorem PRow.some_ {w : World} {a : Option Addr} {c : Nat} {xs : List Int} {F : Nat → Prop} (h : PRow w a c xs F) (hx : xs ≠ []) : ∃ pb off, a = some ⟨pb, off, none⟩ := by
  rcases h.2 with h | ⟨pb, off, rfl, _⟩
  · exact absurd h hx
  · exact ⟨pb, off, rfl⟩

theorem PRow.dropv {w : World} {a : Option Addr} {c : Nat} {xs : List Int} {F : Nat → Prop} (h : PRow w a c xs F) (m : Nat) (hm : m ≤ xs.length) : PRow w (Option.map (fun x => x.add m) a) (c - m) (xs.drop m) F := by
  rcases h.2 with rfl | ⟨pb, off, rfl, _⟩
  · exact ⟨by simp, .inl (by simp)⟩
  · have hd := h.drop_ m hm
    rw [Option.map_some, Addr.add_lit]
    exact hd

theorem PRow.drop0 {w : World} {a : Option Addr} {c : Nat} {xs : List Int} {F : Nat → Prop} (h : PRow w a c xs F) (m : Nat) (h0 : c - m = 0) : PRow w a 0 (xs.drop m) F := by
  have e : xs.drop m = [] := List.drop_eq_nil_of_le (by have := h.1; omega)
  rw [e]
  exact ⟨Nat.zero_le _, .inl rfl⟩

theorem PRow.wide {w w' : World} {a : Option Addr} {c : Nat} {xs : List Int} {F : Nat → Prop} (h : PRow w a c xs F) (ho : Only w w' (fun _ => False)) : PRow w' a c xs F := h.kept (ho.wider (fun _ _ f => f.elim))

theorem PRow.off {w : World} {a : Option Addr} {c : Nat} {xs : List Int} {F : Nat → Prop} (h : PRow w a c xs F) : PRow w a c xs (fun _ => False) := h.mono (fun _ _ f => f.elim)

theorem PRow.nil_ (w : World) (a : Option Addr) (c : Nat) (F : Nat → Prop) : PRow w a c [] F := ⟨Nat.zero_le _, .inl rfl⟩

end Go.Proofs.Qxb6603984aMods
