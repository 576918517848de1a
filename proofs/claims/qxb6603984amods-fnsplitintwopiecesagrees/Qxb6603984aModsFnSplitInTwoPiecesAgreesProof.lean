/-
  THE PROOF OF 'Rows.FnSplitInTwoPiecesAgreesSaid': the shell that was given, its hole filled by the walks of Qxb6603984aModsTwo.
-/
import Derived.Test.Qxb6603984aModsRows
import Derived.WalkKit
import Derived.ProofKit
import Derived.OpenShut
import Derived.ShutString
import Derived.ChangeOld
import Derived.Below
import Derived.Test.Qxb6603984aModsTwo
namespace Go.Proofs.Qxb6603984aMods.fnSplitInTwoPiecesAgrees
open Go.ChangeShapes Go.WideShapes Go.ChangeAt Go.RowKit
open Go.ChangeMaps (open_string shut_string)
set_option linter.unusedVariables false

theorem own : ownKnob Trym.prog.godebug = none := by kernel_rfl
theorem laidOut : laidOutB Trym.prog = true := by kernel_rfl

/-- WHAT THE WALK IS TOLD OF A SLICE OF INTEGERS THAT CAME IN: it is nil; or it leads to a row of 'cap' cells, the numbers 'zs' (the first 'len' are its elements, the rest its spare room), each fitting its kind. -/
def IsRow (k : IntKind) (w : World) (a : Option Addr) (len cap : Nat) (zs : List Int) : Prop :=
  (a = none ∧ len = 0 ∧ cap = 0 ∧ zs = []) ∨
  ∃ x, a = some x ∧ len ≤ cap ∧ cap ≤ maxLen ∧ zs.length = cap ∧ (∀ i, i < zs.length → w.cell? (x.add i) = some (.int k (zs.getD i 0))) ∧ ∀ n ∈ zs, (Lit.int k n).wf = true

/-! ### STEP 1: THE WALK: the Go text returns true, AND WRITES NOTHING THAT WAS THERE: 'Below w.heap.size w w'' (Derived/Below.lean: '.refl', '.alloc', '.drew', '.setCell' at a new block, '.trans'). Open each 'IsRow' by 'rcases' AHEAD of 'go_enter'; part every test ahead of the walk. -/
theorem walk (a0 : Int) (a1 : Option Addr) (len1 cap1 : Nat) (z1 : List Int) (a2 : Option Addr) (len2 cap2 : Nat) (z2 : List Int) (a3 : Int) (w : World) (w0 : (Lit.int .i64 a0).wf = true) (w1 : IsRow .u8 w a1 len1 cap1 z1) (w2 : IsRow .u8 w a2 len2 cap2 z2) (w3 : (Lit.int .i64 a3).wf = true) :
    Calls Trym.prog 5 #[.int .i64 a0, .slice a1 len1 cap1, .slice a2 len2 cap2, .int .i64 a3] w fun e w' => e = .returned (.bool true) ∧ Below w.heap.size w w' := by
  have rowLen : ∀ {a : Option Addr} {len cap : Nat} {zs : List Int}, IsRow .u8 w a len cap zs → len ≤ maxLen ∧ (zs.take len).length = len ∧ (∀ x ∈ zs.take len, 0 ≤ x ∧ x ≤ 255) ∧ Cl w a cap (zs.take len) := by
    intro a len cap zs h
    rcases h with ⟨rfl, rfl, rfl, rfl⟩ | ⟨x, rfl, h1, h2, h3, h4, h5⟩
    · exact ⟨Nat.zero_le _, rfl, by simp, .inl ⟨rfl, rfl, rfl⟩⟩
    · refine ⟨Nat.le_trans h1 h2, by rw [List.length_take]; omega, fun y hy => bounds_u8 (h5 y (List.mem_of_mem_take hy)), .inr ⟨x, rfl, fun i hi => ?_⟩⟩
      have hi' : i < len ∧ i < zs.length := by rw [List.length_take] at hi; omega
      rw [h4 i hi'.2]
      simp [List.getD, hi'.1]
  obtain ⟨hl1, hn1, hb1, hc1⟩ := rowLen w1
  obtain ⟨hl2, hn2, hb2, hc2⟩ := rowLen w2
  by_cases c1 : 65536 < (len1 : Int)
  · exact two_long1 a0 a1 len1 cap1 a2 len2 cap2 a3 w hl1 hl2 c1
  by_cases c2 : 65536 < (len2 : Int)
  · exact two_long2 a0 a1 len1 cap1 a2 len2 cap2 a3 w hl1 hl2 c1 c2
  have g1 : len1 ≤ 65536 := by omega
  have g2 : len2 ≤ 65536 := by omega
  by_cases c3 : a0 < 0
  · exact two_neg a0 a1 len1 cap1 a2 len2 cap2 a3 w g1 g2 c3
  by_cases c4 : 1073741824 < a0
  · exact two_big a0 a1 len1 cap1 a2 len2 cap2 a3 w g1 g2 c3 c4
  obtain ⟨line, rfl⟩ : ∃ line : Nat, a0 = line := ⟨a0.toNat, by omega⟩
  have g3 : line ≤ 1073741824 := by omega
  by_cases c5 : len1 = min line 5
  · by_cases c6 : a3 < 0 ∨ (¬ a3 < 0 ∧ (len2 : Int) < a3)
    · exact two_k line a1 len1 cap1 a2 len2 cap2 a3 w g1 g2 g3 c5 c6
    · obtain ⟨k, rfl⟩ : ∃ k : Nat, a3 = k := ⟨a3.toNat, by omega⟩
      have g4 : k ≤ len2 := by omega
      have T := two_main line a1 cap1 (z1.take len1) a2 cap2 (z2.take len2) k w hc1 hc2 g3 (by rw [hn1]; exact c5) (by rw [hn2]; exact g2) (by rw [hn2]; exact g4) hb1 hb2
      rw [hn1, hn2] at T
      exact T
  · exact two_field line a1 len1 cap1 a2 len2 cap2 a3 w g1 g2 g3 c5

/-! ### THE ROW's STEP: WRITTEN OUT: LEAVE IT -/
set_option maxRecDepth 100000 in
theorem lifted (os : Os) (started : os.Started) (H : Type) (enc : TypeId × Value → H) :
    ReturnsInHanded {} Trym.checked os 5 .any (Rows.fnSplitInTwoPiecesAgreesSpec.pre6 enc Trym.prog Trym.f5 Rows.fnSplitInTwoPiecesAgreesRow.domain false) (Rows.fnSplitInTwoPiecesAgreesSpec.post enc Trym.prog Trym.f5 false true false false) := by
  refine returnsInHanded_of_change (C := Trym.checked) own started (by kernel_rfl) Trym.func5
    (ChangeSpec.witness6 (enc := enc) (C := Trym.checked) false ⟨#[], #[.int .i64 0, .slice none 0 0, .slice none 0 0, .int .i64 0], []⟩ 8 (by kernel_rfl) (by kernel_rfl) (by kernel_rfl) (by kernel_rfl)) ?_
  intro W base args ds gs before hval0 hW hcnd _
  have hval : ∀ (j : Nat) t v, Trym.f5.params[j]? = some t → args[j]? = some v → Value.okWide Trym.prog W .any base t v := hval0
  have hW' := hW
  obtain ⟨p, q, hA0, hV, rfl, hfz, hnd⟩ := hW
  have hA : DataW.TrodAll enc Trym.prog W 0 (fun _ => true) true Trym.f5.params.toList args.toList ds p := hA0
  rw [Trym.params5] at hA hval
  obtain ⟨v0, vs0, d0, ds0, p0, q0, hargs, rfl, rfl, h0, r0⟩ := trodAll_cons hA
  obtain ⟨v1, vs1, d1, ds1, p1, q1, rfl, rfl, rfl, h1, r1⟩ := trodAll_cons r0
  obtain ⟨v2, vs2, d2, ds2, p2, q2, rfl, rfl, rfl, h2, r2⟩ := trodAll_cons r1
  obtain ⟨v3, vs3, d3, ds3, p3, q3, rfl, rfl, rfl, h3, r3⟩ := trodAll_cons r2
  obtain ⟨rfl, rfl, rfl⟩ := trodAll_nil r3
  obtain rfl : args = #[v0, v1, v2, v3] := by cases args; simp_all
  obtain ⟨rfl, rfl⟩ := trodVars_none hV
  obtain ⟨a0, rfl, rfl, rfl, w0⟩ := open_int Trym.underlying3 (hval 0 3 v0 rfl rfl) h0
  obtain ⟨a1, len1, cap1, rfl⟩ := okWide_slice Trym.underlying22 (hval 1 22 v1 rfl rfl)
  have k1 := h1
  have lt1 : ∀ x ∈ p1, x.block < W.heap.size := by obtain ⟨m, hm⟩ := k1; exact DataW.trod_lt m _ _ _ hm
  obtain ⟨z1, w1⟩ : ∃ zs, IsRow .u8 W a1 len1 cap1 zs := by
    obtain ⟨fuel, hf⟩ := h1
    rcases open_ints Trym.underlying22 Trym.underlying5 (by kernel_rfl) hf with ⟨hcs, _⟩ | ⟨x, l, c, zs, hcs, _, hl, hm, hz, _, hcell, hwz⟩
    · simp [Value.cells] at hcs
      obtain ⟨rfl, rfl, rfl⟩ := hcs
      exact ⟨[], .inl ⟨rfl, rfl, rfl, rfl⟩⟩
    · simp [Value.cells] at hcs
      obtain ⟨rfl, rfl, rfl⟩ := hcs
      exact ⟨zs, .inr ⟨_, rfl, hl, hm, by simpa using hz, hcell, hwz⟩⟩
  obtain ⟨a2, len2, cap2, rfl⟩ := okWide_slice Trym.underlying22 (hval 2 22 v2 rfl rfl)
  have k2 := h2
  have lt2 : ∀ x ∈ p2, x.block < W.heap.size := by obtain ⟨m, hm⟩ := k2; exact DataW.trod_lt m _ _ _ hm
  obtain ⟨z2, w2⟩ : ∃ zs, IsRow .u8 W a2 len2 cap2 zs := by
    obtain ⟨fuel, hf⟩ := h2
    rcases open_ints Trym.underlying22 Trym.underlying5 (by kernel_rfl) hf with ⟨hcs, _⟩ | ⟨x, l, c, zs, hcs, _, hl, hm, hz, _, hcell, hwz⟩
    · simp [Value.cells] at hcs
      obtain ⟨rfl, rfl, rfl⟩ := hcs
      exact ⟨[], .inl ⟨rfl, rfl, rfl, rfl⟩⟩
    · simp [Value.cells] at hcs
      obtain ⟨rfl, rfl, rfl⟩ := hcs
      exact ⟨zs, .inr ⟨_, rfl, hl, hm, by simpa using hz, hcell, hwz⟩⟩
  obtain ⟨a3, rfl, rfl, rfl, w3⟩ := open_int Trym.underlying3 (hval 3 3 v3 rfl rfl) h3
  clear hA0 hval0
  refine (walk a0 a1 len1 cap1 z1 a2 len2 cap2 z2 a3 W w0 w1 w2 w3).mono fun e W' ⟨he, bel⟩ => ?_
  subst he
  exact ⟨_, rfl, _, _, _, [], _, [], hW', trodAll_mk1 (shut_bool Trym.underlying4 _), (trodAll_cons_mk (shut_int Trym.underlying3 w0) (trodAll_cons_mk (Below.trod laidOut (by kernel_rfl) (of_decide_eq_true (by kernel_rfl)) k1 bel lt1) (trodAll_cons_mk (Below.trod laidOut (by kernel_rfl) (of_decide_eq_true (by kernel_rfl)) k2 bel lt2) (trodAll_cons_mk (shut_int Trym.underlying3 w3) trodAll_mk0)))), rfl, bel.frame _, fun h => by cases h⟩

theorem over : Rows.fnSplitInTwoPiecesAgreesRow.holds Trym.pinned (OpenSpec.ofChange Rows.fnSplitInTwoPiecesAgreesSpec) :=
  OpenClaim.holds_of_wide 5 Trym.f5 rfl rfl rfl rfl rfl rfl rfl ⟨rfl, rfl, rfl, rfl, rfl⟩ rfl rfl rfl rfl rfl (by kernel_rfl) Trym.func5 (by kernel_rfl)
    (of_decide_eq_true (by kernel_rfl)) (by unfold Func.isWrapper; first | (rw [if_pos (by decide +kernel)]; kernel_rfl) | (rw [if_neg (by decide +kernel)]; exact ⟨rfl, rfl⟩))
    (fun os started H enc _ => lifted os started H enc)

/-- ████ THE STATEMENT ████ -/
theorem proved : Rows.FnSplitInTwoPiecesAgreesSaid := over
#print axioms proved
end Go.Proofs.Qxb6603984aMods.fnSplitInTwoPiecesAgrees
