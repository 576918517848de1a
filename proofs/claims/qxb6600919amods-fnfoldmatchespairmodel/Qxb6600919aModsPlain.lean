/-
  THE PLAIN MATHEMATICS OF THE NEWLINE FOLD: lists of numbers, no Go in sight.
-/
namespace Go.Proofs.Qxb6600919aMods.Plain

/-- The fold as a machine that takes a byte at a time: the state says 'the last byte was a CR'. -/
def foldS : Bool → List Int → List Int × Bool
  | s, [] => ([], s)
  | s, c :: r =>
    if s = true ∧ c = 10 then foldS false r
    else if c = 13 then (10 :: (foldS true r).1, (foldS true r).2)
    else (c :: (foldS false r).1, (foldS false r).2)

theorem foldS_nil (s : Bool) : foldS s [] = ([], s) := rfl

theorem foldS_skip (r : List Int) : foldS true (10 :: r) = foldS false r := by simp [foldS]

theorem foldS_cr (r : List Int) (s : Bool) : foldS s (13 :: r) = (10 :: (foldS true r).1, (foldS true r).2) := by
  simp [foldS]

theorem foldS_other (c : Int) (r : List Int) (s : Bool) (h10 : ¬ (s = true ∧ c = 10)) (h13 : c ≠ 13) :
    foldS s (c :: r) = (c :: (foldS false r).1, (foldS false r).2) := by
  simp only [foldS]
  rw [if_neg h10, if_neg h13]

/-- Behind a byte that is no LF the state tells nothing. -/
theorem foldS_any (c : Int) (r : List Int) (s : Bool) (h : ¬ (s = true ∧ c = 10)) : foldS s (c :: r) = foldS false (c :: r) := by
  simp only [foldS]
  rw [if_neg h]
  simp

theorem foldS_clean (l : List Int) (h : ∀ c ∈ l, c ≠ 13) : foldS false l = (l, false) := by
  induction l with
  | nil => rfl
  | cons c r ih =>
    rw [foldS_other c r false (by simp) (h c (by simp)), ih (fun x hx => h x (by simp [hx]))]

theorem foldS_upto (l r : List Int) (h : ∀ c ∈ l, c ≠ 13) : foldS false (l ++ 13 :: r) = (l ++ 10 :: (foldS true r).1, (foldS true r).2) := by
  induction l with
  | nil => simp [foldS_cr]
  | cons c l ih =>
    rw [List.cons_append, foldS_other c _ false (by simp) (h c (by simp)), ih (fun x hx => h x (by simp [hx]))]
    simp

/-- No CR is left. -/
theorem foldS_no13 (l : List Int) : ∀ s, ∀ c ∈ (foldS s l).1, c ≠ 13 := by
  induction l with
  | nil => intro s c hc; simp [foldS] at hc
  | cons b r ih =>
    intro s c hc
    by_cases h1 : s = true ∧ b = 10
    · obtain ⟨rfl, rfl⟩ := h1
      rw [foldS_skip] at hc
      exact ih _ c hc
    · by_cases h2 : b = 13
      · subst h2
        rw [foldS_cr] at hc
        simp at hc
        rcases hc with rfl | hc
        · decide
        · exact ih _ c hc
      · rw [foldS_other b r s h1 h2] at hc
        simp at hc
        rcases hc with rfl | hc
        · exact h2
        · exact ih _ c hc

theorem foldS_len (l : List Int) : ∀ s, (foldS s l).1.length ≤ l.length ∧ l.length ≤ 2 * (foldS s l).1.length + (if s = true then 1 else 0) := by
  induction l with
  | nil => intro s; simp [foldS]
  | cons b r ih =>
    intro s
    by_cases h1 : s = true ∧ b = 10
    · obtain ⟨rfl, rfl⟩ := h1
      rw [foldS_skip]
      have := ih false
      simp at this ⊢
      omega
    · by_cases h2 : b = 13
      · subst h2
        rw [foldS_cr]
        have := ih true
        simp only [List.length_cons] at this ⊢
        simp only [if_true] at this
        split <;> omega
      · rw [foldS_other b r s h1 h2]
        have := ih false
        simp only [List.length_cons] at this ⊢
        have h0 : (if false = true then 1 else 0) = 0 := rfl
        rw [h0] at this
        split <;> omega

/-- The bytes of the fold are bytes. -/
theorem foldS_wf (l : List Int) (p : Int → Prop) (h10 : p 10) (hl : ∀ c ∈ l, p c) : ∀ s, ∀ c ∈ (foldS s l).1, p c := by
  induction l with
  | nil => intro s c hc; simp [foldS] at hc
  | cons b r ih =>
    intro s c hc
    have ih' := ih (fun x hx => hl x (by simp [hx]))
    by_cases h1 : s = true ∧ b = 10
    · obtain ⟨rfl, rfl⟩ := h1
      rw [foldS_skip] at hc
      exact ih' _ c hc
    · by_cases h2 : b = 13
      · subst h2
        rw [foldS_cr] at hc
        simp at hc
        rcases hc with rfl | hc
        · exact h10
        · exact ih' _ c hc
      · rw [foldS_other b r s h1 h2] at hc
        simp at hc
        rcases hc with rfl | hc
        · exact hl _ (by simp)
        · exact ih' _ c hc

/-- The last state: is the last byte a CR? -/
def lastCR : List Int → Bool
  | [] => false
  | [c] => c == 13
  | _ :: r => lastCR r

theorem foldS_last (l : List Int) : ∀ s, l ≠ [] → (foldS s l).2 = lastCR l := by
  induction l with
  | nil => intro s h; exact absurd rfl h
  | cons b r ih =>
    intro s _
    cases r with
    | nil =>
      by_cases h1 : s = true ∧ b = 10
      · obtain ⟨rfl, rfl⟩ := h1
        rfl
      · by_cases h2 : b = 13
        · subst h2; rw [foldS_cr]; rfl
        · rw [foldS_other b [] s h1 h2]
          simp [foldS, lastCR, h2]
    | cons c r =>
      by_cases h1 : s = true ∧ b = 10
      · obtain ⟨rfl, rfl⟩ := h1
        rw [foldS_skip, ih false (by simp)]; rfl
      · by_cases h2 : b = 13
        · subst h2; rw [foldS_cr, ih true (by simp)]; rfl
        · rw [foldS_other b _ s h1 h2, ih false (by simp)]; rfl

theorem lastCR_getD (l : List Int) (h : l ≠ []) : lastCR l = (l.getD (l.length - 1) 0 == 13) := by
  induction l with
  | nil => exact absurd rfl h
  | cons b r ih =>
    cases r with
    | nil => rfl
    | cons c r =>
      show lastCR (c :: r) = _
      rw [ih (by simp)]
      simp

/-- A list holds no v, or it has a first v. -/
theorem first_of (v : Int) (l : List Int) : (∀ c ∈ l, c ≠ v) ∨ ∃ pre post, l = pre ++ v :: post ∧ ∀ c ∈ pre, c ≠ v := by
  induction l with
  | nil => exact .inl (fun c hc => by simp at hc)
  | cons b r ih =>
    by_cases h : b = v
    · exact .inr ⟨[], r, by simp [h], fun c hc => by simp at hc⟩
    · rcases ih with ih | ⟨pre, post, rfl, hp⟩
      · exact .inl (fun c hc => by
          rcases List.mem_cons.1 hc with rfl | hc
          · exact h
          · exact ih c hc)
      · exact .inr ⟨b :: pre, post, rfl, fun c hc => by
          rcases List.mem_cons.1 hc with rfl | hc
          · exact h
          · exact hp c hc⟩

/-- THE ROUND THAT FINDS NO CR. -/
theorem round_none (zs zs' : List Int) (m off k : Nat) (R : List Int × Bool) (hl : zs'.length = zs.length) (hmo : m ≤ off) (hn : off + k = zs.length)
    (h13 : ∀ c ∈ zs.drop off, c ≠ 13) (hR : R = (zs'.take m ++ (foldS false (zs.drop off)).1, (foldS false (zs.drop off)).2)) :
    R.1.length = m + k ∧ (zs'.take m ++ (zs.drop off ++ zs'.drop (m + k))).length = zs.length ∧ (zs'.take m ++ (zs.drop off ++ zs'.drop (m + k))).take (m + k) = R.1 ∧ R.2 = false := by
  rw [foldS_clean _ h13] at hR
  subst hR
  have h1 : (zs'.take m).length = m := by simp; omega
  have h2 : (zs.drop off).length = k := by simp; omega
  refine ⟨by simp only [List.length_append, h1, h2], ?_, ?_, rfl⟩
  · simp only [List.length_append, h1, h2, List.length_drop]; omega
  · rw [← List.append_assoc]
    exact List.take_left' (by simp only [List.length_append, h1, h2])

/-- THE ROUND THAT FINDS NOTHING LEFT. -/
theorem round_done (zs zs' : List Int) (m off : Nat) (s : Bool) (R : List Int × Bool) (hl : zs'.length = zs.length) (hmo : m ≤ off) (hn : off + 0 = zs.length)
    (hR : R = (zs'.take m ++ (foldS s (zs.drop off)).1, (foldS s (zs.drop off)).2)) : R.1.length = m ∧ zs'.take m = R.1 ∧ R.2 = s := by
  have e : zs.drop off = [] := List.drop_of_length_le (by omega)
  rw [e] at hR
  subst hR
  refine ⟨?_, by simp [foldS], by simp [foldS]⟩
  simp [foldS]
  omega

/-- THE ROUND THAT FINDS A CR. -/
theorem round_found (zs zs' z2 z3 pre post : List Int) (m off k : Nat) (R : List Int × Bool) (hl : zs'.length = zs.length) (hmo : m ≤ off) (hn : off + k = zs.length)
    (hd : zs'.drop off = zs.drop off) (hx : zs.drop off = pre ++ 13 :: post) (h13 : ∀ c ∈ pre, c ≠ 13) (hR : R = (zs'.take m ++ (foldS false (zs.drop off)).1, (foldS false (zs.drop off)).2))
    (h2 : z2 = zs'.take m ++ (pre ++ zs'.drop (m + pre.length))) (h3 : z3 = z2.take (m + pre.length) ++ ([10] ++ z2.drop (m + pre.length + 1))) :
    z2.length = zs.length ∧ z3.length = zs.length ∧ z3.drop (off + (pre.length + 1)) = zs.drop (off + (pre.length + 1)) ∧ zs.drop (off + (pre.length + 1)) = post ∧
      R = (z3.take (m + pre.length + 1) ++ (foldS true (zs.drop (off + (pre.length + 1)))).1, (foldS true (zs.drop (off + (pre.length + 1)))).2) := by
  have hk : k = pre.length + 1 + post.length := by
    have := congrArg List.length hx
    simp at this
    omega
  have e1 : (zs'.take m).length = m := by simp; omega
  have ep : zs.drop (off + (pre.length + 1)) = post := by
    rw [← List.drop_drop, hx, show pre ++ 13 :: post = (pre ++ [13]) ++ post by simp]
    exact List.drop_left' (by simp)
  have ep' : zs'.drop (off + (pre.length + 1)) = post := by
    rw [← List.drop_drop, hd, hx, show pre ++ 13 :: post = (pre ++ [13]) ++ post by simp]
    exact List.drop_left' (by simp)
  have hz2 : z2.take (m + pre.length) = zs'.take m ++ pre := by
    rw [h2, ← List.append_assoc]
    exact List.take_left' (by simp only [List.length_append, e1])
  have hz2d : ∀ j, z2.drop (m + pre.length + j) = zs'.drop (m + pre.length + j) := by
    intro j
    rw [h2, ← List.append_assoc, ← List.drop_drop, List.drop_left' (by simp only [List.length_append, e1]), List.drop_drop]
  have l2 : z2.length = zs.length := by
    rw [h2]
    simp only [List.length_append, e1, List.length_drop]
    omega
  have h3' : z3 = (zs'.take m ++ pre ++ [10]) ++ zs'.drop (m + pre.length + 1) := by
    rw [h3, hz2, hz2d 1]
    simp
  have el : (zs'.take m ++ pre ++ [10]).length = m + pre.length + 1 := by simp only [List.length_append, e1, List.length_singleton]
  refine ⟨l2, ?_, ?_, ep, ?_⟩
  · rw [h3', List.length_append, el, List.length_drop]
    omega
  · rw [ep, ← ep', h3', show off + (pre.length + 1) = (m + pre.length + 1) + (off - m) by omega, ← List.drop_drop, List.drop_left' el, List.drop_drop]
  · rw [hR, ep, hx, foldS_upto pre post h13, h3', List.take_left' el]
    simp

end Go.Proofs.Qxb6600919aMods.Plain
