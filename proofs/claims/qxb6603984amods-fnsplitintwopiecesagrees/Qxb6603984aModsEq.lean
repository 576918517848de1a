/-
  THE WALKS OF isDataNameB1, evEqB1, scanEqB1; clones as owned rows.
-/
import Derived.Test.Qxb6603984aModsMem
namespace Go.Proofs.Qxb6603984aMods
open Go.RowKit Plain

/-- What is known of a slice that is cloned. -/
def Cl (w : World) (a : Option Addr) (c : Nat) (xs : List Int) : Prop := (a = none ∧ c = 0 ∧ xs = []) ∨ ∃ x, a = some x ∧ ∀ i, i < xs.length → w.cell? (x.add i) = some (.int .u8 (xs.getD i 0))

theorem Own.cl {w : World} {ao : Option Addr} {c : Nat} {xs : List Int} (h : Own w ao c xs) : Cl w ao c xs := by
  rcases h.form with ⟨rfl, rfl, rfl⟩ | ⟨g, cur, rfl, _⟩
  · exact .inl ⟨rfl, rfl, rfl⟩
  · refine .inr ⟨_, rfl, fun i hi => ?_⟩
    obtain ⟨g', he, hc⟩ := h.get i hi
    simp at he
    subst he
    rw [Addr.add_lit, Nat.zero_add]
    exact hc

/-- cloneBytesB1. -/
theorem clone_own (a : Option Addr) (c : Nat) (xs : List Int) (w : World) (h : Cl w a c xs) (hl : xs.length ≤ 1048576) :
    Calls Trym.prog 7 #[.slice a xs.length c] w fun e w' => ∃ a' c', e = .returned (.slice a' xs.length c') ∧ Own w' a' c' xs ∧ Only w w' (fun _ => False) ∧ (∀ g, blk a' = some g → w.heap.size ≤ g) := by
  rcases h with ⟨rfl, rfl, rfl⟩ | ⟨x, rfl, hc⟩
  · refine (clone_nil w).mono ?_
    rintro e w' ⟨rfl, rfl⟩
    exact ⟨none, 0, rfl, Own.none_ _, Only.refl _ _, fun g hg => by simp [blk] at hg⟩
  · refine (clone_any x xs.length c xs w rfl hl hc).mono ?_
    rintro e w' ⟨rfl, rfl⟩
    refine ⟨some ⟨w.heap.size, 0, none⟩, xs.length, rfl, Own.of_row (Go.heap_alloc_new w _) (by unfold maxLen; omega), (Only.refl _ _).alloc _, fun g hg => ?_⟩
    simp [blk] at hg
    omega

/-- The five bytes. -/
theorem isData_ints (f : List Int) (hw : ∀ x ∈ f, 0 ≤ x ∧ x ≤ 255) : isData f = decide (f = [100, 97, 116, 97, 58]) := by
  unfold isData
  rw [Lib.toList_data, strOfNums_data]
  by_cases h : f = [100, 97, 116, 97, 58]
  · subst h; rfl
  · rw [decide_eq_false h, beq_eq_false_iff_ne]
    intro e
    apply h
    match f, e, hw with
    | [a, b, c, d, g], e, hw =>
      simp only [List.map_cons, List.map_nil, List.cons.injEq, and_true] at e
      have k : ∀ (x : Int) (n : Nat), 0 ≤ x ∧ x ≤ 255 → n ≤ 255 → UInt8.ofNat x.toNat = UInt8.ofNat n → x = n := by
        intro x n h1 h2 h3
        have := congrArg UInt8.toNat h3
        simp at this
        omega
      have w1 := hw a (by simp)
      have w2 := hw b (by simp)
      have w3 := hw c (by simp)
      have w4 := hw d (by simp)
      have w5 := hw g (by simp)
      rw [k a 100 w1 (by omega) e.1, k b 97 w2 (by omega) e.2.1, k c 116 w3 (by omega) e.2.2.1, k d 97 w4 (by omega) e.2.2.2.1, k g 58 w5 (by omega) e.2.2.2.2]
      rfl
    | [], e, _ => simp at e
    | [_], e, _ => simp at e
    | [_, _], e, _ => simp at e
    | [_, _, _], e, _ => simp at e
    | [_, _, _, _], e, _ => simp at e
    | _ :: _ :: _ :: _ :: _ :: _ :: _, e, _ => simp at e

set_option maxHeartbeats 1000000 in
/-- isDataNameB1. -/
theorem data_any (a : Option Addr) (c : Nat) (f : List Int) (w : World) (h : Rd w a f) (hw : ∀ x ∈ f, 0 ≤ x ∧ x ≤ 255) (hl : f.length ≤ 1048576) :
    Calls Trym.prog 14 #[.slice a f.length c] w fun e w' => e = .returned (.bool (isData f)) ∧ w = w' := by
  rw [isData_ints f hw]
  by_cases h5 : f.length = 5
  · match f, h5, h with
    | [x0, x1, x2, x3, x4], _, h =>
      obtain ⟨b, off, rfl, hc⟩ : ∃ b off, a = some ⟨b, off, none⟩ ∧ ∀ i, i < 5 → w.cell? ⟨b, off + i, none⟩ = some (.int .u8 ([x0, x1, x2, x3, x4].getD i 0)) := by
        rcases h with h | h
        · simp at h
        · exact h
      have c0 := hc 0 (by omega)
      have c1 := hc 1 (by omega)
      have c2 := hc 2 (by omega)
      have c3 := hc 3 (by omega)
      have c4 := hc 4 (by omega)
      simp at c0 c1 c2 c3 c4
      clear h hc hw hl
      simp only [List.length_cons, List.length_nil, Nat.zero_add, Nat.reduceAdd]
      by_cases e0 : x0 = 100
      · by_cases e1 : x1 = 97
        · by_cases e2 : x2 = 116
          · by_cases e3 : x3 = 97
            · by_cases e4 : x4 = 58
              · subst e0 e1 e2 e3 e4
                rw [decide_eq_true rfl]
                go_enter Trym.func14, Trym.ntmps14
                go_wp2
                go_ret
                exact ⟨rfl, rfl⟩
              · rw [decide_eq_false (by simp [e4])]
                have e4' : (x4 == 58) = false := by rw [beq_eq_false_iff_ne]; exact e4
                subst e0 e1 e2 e3
                clear e4
                go_enter Trym.func14, Trym.ntmps14
                go_wp2
                go_ret
                exact ⟨rfl, rfl⟩
            · rw [decide_eq_false (by simp [e3])]
              have e3' : (x3 == 97) = false := by rw [beq_eq_false_iff_ne]; exact e3
              subst e0 e1 e2
              clear e3
              go_enter Trym.func14, Trym.ntmps14
              go_wp2
              go_ret
              exact ⟨rfl, rfl⟩
          · rw [decide_eq_false (by simp [e2])]
            have e2' : (x2 == 116) = false := by rw [beq_eq_false_iff_ne]; exact e2
            subst e0 e1
            clear e2
            go_enter Trym.func14, Trym.ntmps14
            go_wp2
            go_ret
            exact ⟨rfl, rfl⟩
        · rw [decide_eq_false (by simp [e1])]
          have e1' : (x1 == 97) = false := by rw [beq_eq_false_iff_ne]; exact e1
          subst e0
          clear e1
          go_enter Trym.func14, Trym.ntmps14
          go_wp2
          go_ret
          exact ⟨rfl, rfl⟩
      · rw [decide_eq_false (by simp [e0])]
        have e0' : (x0 == 100) = false := by rw [beq_eq_false_iff_ne]; exact e0
        clear e0
        go_enter Trym.func14, Trym.ntmps14
        go_wp2
        go_ret
        exact ⟨rfl, rfl⟩
  · rw [decide_eq_false (fun e => h5 (by rw [e]; rfl))]
    have h5' : ((f.length : Int) == 5) = false := by rw [beq_eq_false_iff_ne]; omega
    clear h5 h hw
    go_enter Trym.func14, Trym.ntmps14
    go_wp2
    go_ret
    exact ⟨rfl, rfl⟩

theorem Rd.kept {w w' : World} {a : Option Addr} {xs : List Int} {F : Nat → Prop} (h : Rd w a xs) (ho : Only w w' F) (hF : ∀ g, blk a = some g → ¬ F g) : Rd w' a xs := by
  rcases h with h | ⟨b, off, rfl, hc⟩
  · exact .inl h
  · refine .inr ⟨b, off, rfl, fun i hi => ?_⟩
    have hlt : b < w.heap.size := block_lt_of_cell (hc i hi)
    rw [World.cell?_of_block (w := w) (ho.block b hlt (hF b rfl))]
    exact hc i hi

set_option maxHeartbeats 1000000 in
set_option maxRecDepth 100000 in
/-- evEqB1 at two events that hold the same. -/
theorem eveq_same (w : World) (L : Int) (F : List Int) (d : Bool) (fa : Option Addr) (fc : Nat) (fa' : Option Addr) (fc' : Nat) (h : Rd w fa F) (h' : Rd w fa' F) (hl : F.length ≤ 1048576) :
    Calls Trym.prog 21 #[.agg #[.int .i64 L, .slice fa F.length fc, .bool d], .agg #[.int .i64 L, .slice fa' F.length fc', .bool d]] w fun e w' => e = .returned (.bool true) ∧ Only w w' (fun _ => False) := by
  have hll : (L == L) = true := by simp
  have hdd : (d == d) = true := by simp
  have H := hide h
  have H' := hide h'
  clear h h'
  go_enter Trym.func21, Trym.ntmps21
  go_wp2_with fail
  refine (equal_same fa fa' fc fc' F _ hl (H.out.kept (((Only.refl w (fun _ => False)).alloc _).alloc _) (fun _ _ f => f)) (H'.out.kept (((Only.refl w (fun _ => False)).alloc _).alloc _) (fun _ _ f => f))).mono ?_
  rintro e w1 ⟨rfl, n, rfl⟩
  go_wp2
  go_ret
  exact ⟨rfl, (((Only.refl w (fun _ => False)).alloc _).alloc _).drewN n⟩

set_option maxHeartbeats 2000000 in
set_option maxRecDepth 100000 in
/-- scanEqB1 at two scans that hold the same. -/
theorem scaneq_same (w : World) (S : Sc) (ka : Option Addr) (kc : Nat) (ra : Option Addr) (rc : Nat) (ka' : Option Addr) (kc' : Nat) (ra' : Option Addr) (rc' : Nat) (h1 : Rd w ka S.key) (h2 : Rd w ka' S.key) (h3 : Rd w ra S.raw) (h4 : Rd w ra' S.raw) (hk : S.key.length ≤ 1048576) (hr : S.raw.length ≤ 1048576) :
    Calls Trym.prog 11 #[.agg (fld S ka kc ra rc), .agg (fld S ka' kc' ra' rc')] w fun e w' => e = .returned (.bool true) ∧ Only w w' (fun _ => False) := by
  obtain ⟨depth, str, esc, pos, inKey, key, inID, raw, method⟩ := S
  simp only [fld] at *
  have b1 : (depth == depth) = true := by simp
  have b2 : (str == str) = true := by simp
  have b3 : (esc == esc) = true := by simp
  have b4 : (pos == pos) = true := by simp
  have b5 : (inKey == inKey) = true := by simp
  have b6 : (inID == inID) = true := by simp
  have b7 : (method == method) = true := by simp
  have H1 := hide h1
  have H2 := hide h2
  have H3 := hide h3
  have H4 := hide h4
  clear h1 h2 h3 h4
  go_enter Trym.func11, Trym.ntmps11
  go_wp2_with fail
  refine (equal_same ka ka' kc kc' key _ hk (H1.out.kept (((Only.refl w (fun _ => False)).alloc _).alloc _) (fun _ _ f => f)) (H2.out.kept (((Only.refl w (fun _ => False)).alloc _).alloc _) (fun _ _ f => f))).mono ?_
  rintro e w1 ⟨rfl, n, rfl⟩
  go_wp2_with fail
  refine (equal_same ra ra' rc rc' raw _ hr (H3.out.kept ((((Only.refl w (fun _ => False)).alloc _).alloc _).drewN n) (fun _ _ f => f)) (H4.out.kept ((((Only.refl w (fun _ => False)).alloc _).alloc _).drewN n) (fun _ _ f => f))).mono ?_
  rintro e w2 ⟨rfl, m, rfl⟩
  go_wp2
  go_ret
  exact ⟨rfl, (((Only.refl w (fun _ => False)).alloc _).alloc _).drewN _⟩

/-- The bound that the program laid, two slices. -/
theorem zb20_yes (a : Int) (f : Option Addr) (n c : Nat) (p : Option Addr) (m d : Nat) (k : Int) (w : World) (h1 : n ≤ 65536) (h2 : m ≤ 65536) :
    Calls Trym.prog 20 #[.int .i64 a, .slice f n c, .slice p m d, .int .i64 k] w fun e w' => e = .returned (.bool true) ∧ w = w' := by
  go_enter Trym.func20, Trym.ntmps20
  go_wp2
  go_ret
  exact ⟨rfl, rfl⟩

/-- .. whatever the lengths. -/
theorem zb20_any (a : Int) (f : Option Addr) (n c : Nat) (p : Option Addr) (m d : Nat) (k : Int) (w : World) (h1 : n ≤ maxLen) (h2 : m ≤ maxLen) :
    Calls Trym.prog 20 #[.int .i64 a, .slice f n c, .slice p m d, .int .i64 k] w fun e w' => (∃ b, e = .returned (.bool b)) ∧ w = w' := by
  unfold maxLen at h1 h2
  by_cases c1 : 1048576 < n
  · go_enter Trym.func20, Trym.ntmps20
    go_wp2
    go_ret
    exact ⟨⟨_, rfl⟩, rfl⟩
  · by_cases c2 : 1048576 < m
    · go_enter Trym.func20, Trym.ntmps20
      go_wp2
      go_ret
      exact ⟨⟨_, rfl⟩, rfl⟩
    · by_cases c3 : 1048576 < n + m
      · go_enter Trym.func20, Trym.ntmps20
        go_wp2
        go_ret
        exact ⟨⟨_, rfl⟩, rfl⟩
      · go_enter Trym.func20, Trym.ntmps20
        go_wp2
        go_ret
        exact ⟨⟨_, rfl⟩, rfl⟩

/-- minIntB1. -/
theorem min_any (a : Nat) (w : World) : Calls Trym.prog 13 #[.int .i64 a, .int .i64 5] w fun e w' => e = .returned (.int .i64 (min a 5 : Nat)) ∧ w = w' := by
  by_cases h : a < 5
  · have e : min a 5 = a := by omega
    rw [e]
    have h' : (a : Int) < 5 := by omega
    clear e h
    go_enter Trym.func13, Trym.ntmps13
    go_wp2
    go_ret
    exact ⟨rfl, rfl⟩
  · have e : min a 5 = 5 := by omega
    rw [e]
    have h' : ¬ (a : Int) < 5 := by omega
    clear e h
    go_enter Trym.func13, Trym.ntmps13
    go_wp2
    go_ret
    exact ⟨rfl, rfl⟩

end Go.Proofs.Qxb6603984aMods
