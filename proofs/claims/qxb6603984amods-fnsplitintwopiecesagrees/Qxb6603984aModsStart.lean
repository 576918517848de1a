/-
  THE WALKS OF startValue, indexFrom.
-/
import Derived.Test.Qxb6603984aModsScan
namespace Go.Proofs.Qxb6603984aMods
open Go.RowKit Plain

set_option maxHeartbeats 1000000 in
theorem start_no (w : World) (sb : Nat) (ka : Option Addr) (kc : Nat) (ra : Option Addr) (rc : Nat) (S : Sc) (c : Int) (h : ScanAt w sb ka kc ra rc S) (h1 : isId S.key = false) :
    Calls Trym.prog 31 #[.pointer (some ⟨sb, 0, none⟩), .int .u8 c] w fun e w' => e = .returned (.tuple #[]) ∧ Doing w sb ka ra { S with pos := 4 } w' := by
  obtain ⟨hcell, hfroz⟩ := told h.cells
  have st := h.store 3 (.int .i64 4) { S with pos := 4 } rfl rfl rfl
  have hconv := st.key.conv
  have hid : ((strOfNums S.key).toList == [105, 100]) = false := h1
  have H := hide st
  simp only [fld] at hcell
  clear h h1 st
  go_enter Trym.func31, Trym.ntmps31
  go_wp2
  refine bodyPost_ret (results_none rfl _ _ _) rfl ?_
  exact ⟨rfl, ka, kc, ra, rc, H.out, ScanAt.frm_store _ _ _ _ _ _⟩

set_option maxHeartbeats 1000000 in
theorem start_yes (w : World) (sb : Nat) (ka : Option Addr) (kc : Nat) (ra : Option Addr) (rc : Nat) (S : Sc) (c : Int) (h : ScanAt w sb ka kc ra rc S) (h1 : isId S.key = true) (hc1 : (c != 123) = true) (hc2 : (c != 91) = true) :
    Calls Trym.prog 31 #[.pointer (some ⟨sb, 0, none⟩), .int .u8 c] w fun e w' => e = .returned (.tuple #[]) ∧ Doing w sb ka ra { S with pos := 4, raw := [], inID := true } w' := by
  obtain ⟨hcell, hfroz⟩ := told h.cells
  have st := h.store 3 (.int .i64 4) { S with pos := 4 } rfl rfl rfl
  have hconv := st.key.conv
  have hid : ((strOfNums S.key).toList == [105, 100]) = true := h1
  have H := hide st
  simp only [fld] at hcell
  clear h h1 st
  go_enter Trym.func31, Trym.ntmps31
  go_wp2
  go_end0
  have r := H.out.newRaw (World.grownBy.refl _ _) H.out.raw.empty (fun g hg => .inl hg)
  exact ⟨rfl, ka, kc, ra, rc, r.1.store 6 (.bool true) _ rfl rfl rfl, ((ScanAt.frm_store _ _ _ _ _ _).trans r.2).trans (ScanAt.frm_store _ _ _ _ _ _)⟩

set_option maxHeartbeats 1000000 in
theorem start_open (w : World) (sb : Nat) (ka : Option Addr) (kc : Nat) (ra : Option Addr) (rc : Nat) (S : Sc) (c : Int) (h : ScanAt w sb ka kc ra rc S) (h1 : isId S.key = true) (hc : c = 123 ∨ c = 91) :
    Calls Trym.prog 31 #[.pointer (some ⟨sb, 0, none⟩), .int .u8 c] w fun e w' => e = .returned (.tuple #[]) ∧ Doing w sb ka ra { S with pos := 4, raw := [] } w' := by
  obtain ⟨hcell, hfroz⟩ := told h.cells
  have st := h.store 3 (.int .i64 4) { S with pos := 4 } rfl rfl rfl
  have hconv := st.key.conv
  have hid : ((strOfNums S.key).toList == [105, 100]) = true := h1
  have H := hide st
  simp only [fld] at hcell
  clear h h1 st
  rcases hc with rfl | rfl
  all_goals
    go_enter Trym.func31, Trym.ntmps31
    go_wp2
    go_end0
    have r := H.out.newRaw (World.grownBy.refl _ _) H.out.raw.empty (fun g hg => .inl hg)
    exact ⟨rfl, ka, kc, ra, rc, r.1, (ScanAt.frm_store _ _ _ _ _ _).trans r.2⟩

/-- startValue. -/
theorem start_any (w : World) (sb : Nat) (ka : Option Addr) (kc : Nat) (ra : Option Addr) (rc : Nat) (S : Sc) (c : Int) (h : ScanAt w sb ka kc ra rc S) :
    Calls Trym.prog 31 #[.pointer (some ⟨sb, 0, none⟩), .int .u8 c] w fun e w' => e = .returned (.tuple #[]) ∧ Doing w sb ka ra (startV S c) w' := by
  rcases Bool.eq_false_or_eq_true (isId S.key) with h1 | h1
  · by_cases hc : c ≠ 123 ∧ c ≠ 91
    · have e : startV S c = { S with pos := 4, raw := [], inID := true } := by simp [startV, h1, hc]
      rw [e]
      exact start_yes w sb ka kc ra rc S c h h1 (by simpa using hc.1) (by simpa using hc.2)
    · have e : startV S c = { S with pos := 4, raw := [] } := by
        unfold startV
        rw [if_pos h1, if_neg hc]
      rw [e]
      exact start_open w sb ka kc ra rc S c h h1 (by omega)
  · have e : startV S c = { S with pos := 4 } := by simp [startV, h1]
    rw [e]
    exact start_no w sb ka kc ra rc S c h h1

/-! ### indexFrom -/

theorem takeWhile_all {p : Int → Bool} {l : List Int} (h : ∀ x ∈ l, p x = true) : l.takeWhile p = l := by
  induction l with
  | nil => rfl
  | cons a r ih => rw [List.takeWhile_cons_of_pos (h a (by simp)), ih (fun x hx => h x (by simp [hx]))]

theorem takeWhile_upto (v : Int) (pre post : List Int) (h : ∀ x ∈ pre, x ≠ v) : (pre ++ v :: post).takeWhile (fun x => x != v) = pre := by
  induction pre with
  | nil => simp
  | cons a r ih =>
    rw [List.cons_append, List.takeWhile_cons_of_pos (by simpa using h a (by simp)), ih (fun x hx => h x (by simp [hx]))]

/-- A list holds no v, or it has a first v. -/
theorem first_of (v : Int) (l : List Int) : (∀ c ∈ l, c ≠ v) ∨ ∃ pre post, l = pre ++ v :: post ∧ ∀ c ∈ pre, c ≠ v := by
  induction l with
  | nil => exact .inl (fun c hc => by simp at hc)
  | cons b r ih =>
    by_cases h : b = v
    · exact .inr ⟨[], r, by simp [h], fun c hc => by simp at hc⟩
    · rcases ih with ih | ⟨pre, post, rfl, hp⟩
      · exact .inl (fun c hc => by
          rcases List.mem_cons.1 hc with rfl | hc
          · exact h
          · exact ih c hc)
      · exact .inr ⟨b :: pre, post, rfl, fun c hc => by
          rcases List.mem_cons.1 hc with rfl | hc
          · exact h
          · exact hp c hc⟩

set_option maxHeartbeats 400000 in
/-- indexFrom. -/
theorem from_any (b off c : Nat) (xs : List Int) (i : Nat) (v : Int) (w : World) (hl : xs.length ≤ 1048576) (hn : xs.length ≤ c) (hi : i < xs.length) (hv : 0 ≤ v ∧ v ≤ 255) (hw : ∀ x ∈ xs, 0 ≤ x ∧ x ≤ 255)
    (hc : ∀ j, j < xs.length → w.cell? ⟨b, off + j, none⟩ = some (.int .u8 (xs.getD j 0))) :
    Calls Trym.prog 30 #[.slice (some ⟨b, off, none⟩) xs.length c, .int .i64 i, .int .u8 v] w fun e w' => e = .returned (.int .i64 (idxFrom xs i v)) ∧ w = w' := by
  have hcd : Hid (∀ j, j < xs.length - i → w.cell? ⟨b, off + i + j, none⟩ = some (.int .u8 ((xs.drop i).getD j 0))) := by
    intro j hj
    rw [Nat.add_assoc, hc (i + j) (by omega)]
    simp [List.getD]
  have hne : ¬ c = i := by omega
  have hwd : ∀ x ∈ xs.drop i, 0 ≤ x ∧ x ≤ 255 := fun x hx => hw x (List.mem_of_mem_drop hx)
  rcases first_of v (xs.drop i) with h1 | ⟨pre, post, h1, h2⟩
  · have e : Hid ((idxFrom xs i v : Int) = (xs.length : Int)) := by
      show _ = _
      unfold idxFrom
      rw [takeWhile_all (fun x hx => by simpa using h1 x hx), List.length_drop]
      omega
    have hr : Hid (Lib.indexByte (Lib.bytesOf (xs.drop i)) v.toNat.toUInt8 = -1) := index_no v _ hv hwd h1
    clear hc hw hwd h1
    go_enter Trym.func30, Trym.ntmps30
    go_wp2_with fail
    refine (index_at b (off + i) (xs.length - i) _ (xs.drop i) v _ (by simp) hcd.out).mono ?_
    rw [hr.out]
    rintro e w' ⟨rfl, rfl⟩
    go_wp2
    go_ret
    rw [e.out]
    exact ⟨rfl, rfl⟩
  · have e : Hid ((idxFrom xs i v : Int) = (i : Int) + (pre.length : Int)) := by
      show _ = _
      unfold idxFrom
      rw [h1, takeWhile_upto v pre post h2]
      omega
    have hr : Hid (Lib.indexByte (Lib.bytesOf (xs.drop i)) v.toNat.toUInt8 = (pre.length : Int)) := by
      show _ = _
      rw [h1] at hwd ⊢
      exact index_yes v pre post hv (fun x hx => hwd x (by simp [hx])) h2
    have hpl : i + pre.length < xs.length := by
      have := congrArg List.length h1
      simp at this
      omega
    clear hc hw hwd h1 h2
    go_enter Trym.func30, Trym.ntmps30
    go_wp2_with fail
    refine (index_at b (off + i) (xs.length - i) _ (xs.drop i) v _ (by simp) hcd.out).mono ?_
    rw [hr.out]
    rintro e w' ⟨rfl, rfl⟩
    go_wp2
    go_ret
    rw [e.out]
    exact ⟨rfl, rfl⟩

end Go.Proofs.Qxb6603984aMods
