/-
  THE PROOF OF 'Rows.FnSplitMatchesLineModelSaid': the shell that was given, its hole filled by the walks of Qxb6603984aModsLine.
-/
import Derived.Test.Qxb6603984aModsRows
import Derived.WalkKit
import Derived.ProofKit
import Derived.OpenShut
import Derived.ShutString
import Derived.ChangeOld
import Derived.Below
import Derived.Test.Qxb6603984aModsLine
namespace Go.Proofs.Qxb6603984aMods.fnSplitMatchesLineModel
open Go.ChangeShapes Go.WideShapes Go.ChangeAt Go.RowKit
open Go.ChangeMaps (open_string shut_string)
set_option linter.unusedVariables false

theorem own : ownKnob Trym.prog.godebug = none := by kernel_rfl
theorem laidOut : laidOutB Trym.prog = true := by kernel_rfl

/-- WHAT THE WALK IS TOLD OF A SLICE OF INTEGERS THAT CAME IN: it is nil; or it leads to a row of 'cap' cells, the numbers 'zs' (the first 'len' are its elements, the rest its spare room), each fitting its kind. -/
def IsRow (k : IntKind) (w : World) (a : Option Addr) (len cap : Nat) (zs : List Int) : Prop :=
  (a = none ∧ len = 0 ∧ cap = 0 ∧ zs = []) ∨
  ∃ x, a = some x ∧ len ≤ cap ∧ cap ≤ maxLen ∧ zs.length = cap ∧ (∀ i, i < zs.length → w.cell? (x.add i) = some (.int k (zs.getD i 0))) ∧ ∀ n ∈ zs, (Lit.int k n).wf = true

/-! ### STEP 1: THE WALK: the Go text returns true, AND WRITES NOTHING THAT WAS THERE: 'Below w.heap.size w w'' (Derived/Below.lean: '.refl', '.alloc', '.drew', '.setCell' at a new block, '.trans'). Open each 'IsRow' by 'rcases' AHEAD of 'go_enter'; part every test ahead of the walk. -/
theorem walk (a0 : Int) (a1 : Option Addr) (len1 cap1 : Nat) (z1 : List Int) (a2 : Int) (a3 : Bool) (a4 : Bool) (a5 : Int) (a6 : Bool) (a7 : Option Addr) (len7 cap7 : Nat) (z7 : List Int) (a8 : Bool) (a9 : Option Addr) (len9 cap9 : Nat) (z9 : List Int) (a10 : Bool) (a11 : Option Addr) (len11 cap11 : Nat) (z11 : List Int) (w : World) (w0 : (Lit.int .i64 a0).wf = true) (w1 : IsRow .u8 w a1 len1 cap1 z1) (w2 : (Lit.int .i64 a2).wf = true) (w5 : (Lit.int .i64 a5).wf = true) (w7 : IsRow .u8 w a7 len7 cap7 z7) (w9 : IsRow .u8 w a9 len9 cap9 z9) (w11 : IsRow .u8 w a11 len11 cap11 z11) :
    Calls Trym.prog 4 #[.int .i64 a0, .slice a1 len1 cap1, .int .i64 a2, .bool a3, .bool a4, .int .i64 a5, .bool a6, .slice a7 len7 cap7, .bool a8, .slice a9 len9 cap9, .bool a10, .slice a11 len11 cap11] w fun e w' => e = .returned (.bool true) ∧ Below w.heap.size w w' := by
  have rowLen : ∀ {a : Option Addr} {len cap : Nat} {zs : List Int}, IsRow .u8 w a len cap zs → len ≤ maxLen ∧ (zs.take len).length = len ∧ (∀ x ∈ zs.take len, 0 ≤ x ∧ x ≤ 255) ∧ Cl w a cap (zs.take len) := by
    intro a len cap zs h
    rcases h with ⟨rfl, rfl, rfl, rfl⟩ | ⟨x, rfl, h1, h2, h3, h4, h5⟩
    · exact ⟨Nat.zero_le _, rfl, by simp, .inl ⟨rfl, rfl, rfl⟩⟩
    · refine ⟨Nat.le_trans h1 h2, by rw [List.length_take]; omega, fun y hy => bounds_u8 (h5 y (List.mem_of_mem_take hy)), .inr ⟨x, rfl, fun i hi => ?_⟩⟩
      have hi' : i < len ∧ i < zs.length := by rw [List.length_take] at hi; omega
      rw [h4 i hi'.2]
      simp [List.getD, hi'.1]
  obtain ⟨hl1, hn1, hb1, hc1⟩ := rowLen w1
  obtain ⟨hl7, hn7, hb7, hc7⟩ := rowLen w7
  obtain ⟨hl9, hn9, hb9, hc9⟩ := rowLen w9
  obtain ⟨hl11, hn11, hb11, hc11⟩ := rowLen w11
  by_cases c1 : 65536 < (len1 : Int)
  · exact line_long1 a0 a1 len1 cap1 a2 a3 a4 a5 a6 a7 len7 cap7 a8 a9 len9 cap9 a10 a11 len11 cap11 w hl1 hl7 hl9 hl11 c1
  by_cases c2 : 65536 < (len7 : Int)
  · exact line_long2 a0 a1 len1 cap1 a2 a3 a4 a5 a6 a7 len7 cap7 a8 a9 len9 cap9 a10 a11 len11 cap11 w hl1 hl7 hl9 hl11 c1 c2
  by_cases c3 : 65536 < (len9 : Int)
  · exact line_long3 a0 a1 len1 cap1 a2 a3 a4 a5 a6 a7 len7 cap7 a8 a9 len9 cap9 a10 a11 len11 cap11 w hl1 hl7 hl9 hl11 c1 c2 c3
  by_cases c4 : 65536 < (len11 : Int)
  · exact line_long4 a0 a1 len1 cap1 a2 a3 a4 a5 a6 a7 len7 cap7 a8 a9 len9 cap9 a10 a11 len11 cap11 w hl1 hl7 hl9 hl11 c1 c2 c3 c4
  have g1 : len1 ≤ 65536 := by omega
  have g7 : len7 ≤ 65536 := by omega
  have g9 : len9 ≤ 65536 := by omega
  have g11 : len11 ≤ 65536 := by omega
  by_cases c5 : a0 < 0
  · exact line_neg a0 a1 len1 cap1 a2 a3 a4 a5 a6 a7 len7 cap7 a8 a9 len9 cap9 a10 a11 len11 cap11 w g1 g7 g9 g11 c5
  by_cases c6 : 1073741824 < a0
  · exact line_big a0 a1 len1 cap1 a2 a3 a4 a5 a6 a7 len7 cap7 a8 a9 len9 cap9 a10 a11 len11 cap11 w g1 g7 g9 g11 c5 c6
  obtain ⟨line, rfl⟩ : ∃ line : Nat, a0 = line := ⟨a0.toNat, by omega⟩
  have g0 : line ≤ 1073741824 := by omega
  by_cases c7 : len1 = min line 5
  · have T := line_main line a1 cap1 (z1.take len1) ⟨a2, a3, a4, a5, a6, z7.take len7, a8, z9.take len9, a10⟩ a7 cap7 a9 cap9 a11 cap11 (z11.take len11) w hc1 hc7 hc9 hc11 g0 (by rw [hn1]; exact c7) (by show (z7.take len7).length ≤ _; rw [hn7]; exact g7) (by show (z9.take len9).length ≤ _; rw [hn9]; exact g9) (by rw [hn11]; exact g11) hb1 hb11
    dsimp only at T
    rw [hn1, hn7, hn9, hn11] at T
    exact T
  · exact line_field line a1 len1 cap1 a2 a3 a4 a5 a6 a7 len7 cap7 a8 a9 len9 cap9 a10 a11 len11 cap11 w g1 g7 g9 g11 g0 c7

/-! ### THE ROW's STEP: WRITTEN OUT: LEAVE IT -/
set_option maxRecDepth 100000 in
theorem lifted (os : Os) (started : os.Started) (H : Type) (enc : TypeId × Value → H) :
    ReturnsInHanded {} Trym.checked os 4 .any (Rows.fnSplitMatchesLineModelSpec.pre6 enc Trym.prog Trym.f4 Rows.fnSplitMatchesLineModelRow.domain false) (Rows.fnSplitMatchesLineModelSpec.post enc Trym.prog Trym.f4 false true false false) := by
  refine returnsInHanded_of_change (C := Trym.checked) own started (by kernel_rfl) Trym.func4
    (ChangeSpec.witness6 (enc := enc) (C := Trym.checked) false ⟨#[], #[.int .i64 0, .slice none 0 0, .int .i64 0, .bool false, .bool false, .int .i64 0, .bool false, .slice none 0 0, .bool false, .slice none 0 0, .bool false, .slice none 0 0], []⟩ 8 (by kernel_rfl) (by kernel_rfl) (by kernel_rfl) (by kernel_rfl)) ?_
  intro W base args ds gs before hval0 hW hcnd _
  have hval : ∀ (j : Nat) t v, Trym.f4.params[j]? = some t → args[j]? = some v → Value.okWide Trym.prog W .any base t v := hval0
  have hW' := hW
  obtain ⟨p, q, hA0, hV, rfl, hfz, hnd⟩ := hW
  have hA : DataW.TrodAll enc Trym.prog W 0 (fun _ => true) true Trym.f4.params.toList args.toList ds p := hA0
  rw [Trym.params4] at hA hval
  obtain ⟨v0, vs0, d0, ds0, p0, q0, hargs, rfl, rfl, h0, r0⟩ := trodAll_cons hA
  obtain ⟨v1, vs1, d1, ds1, p1, q1, rfl, rfl, rfl, h1, r1⟩ := trodAll_cons r0
  obtain ⟨v2, vs2, d2, ds2, p2, q2, rfl, rfl, rfl, h2, r2⟩ := trodAll_cons r1
  obtain ⟨v3, vs3, d3, ds3, p3, q3, rfl, rfl, rfl, h3, r3⟩ := trodAll_cons r2
  obtain ⟨v4, vs4, d4, ds4, p4, q4, rfl, rfl, rfl, h4, r4⟩ := trodAll_cons r3
  obtain ⟨v5, vs5, d5, ds5, p5, q5, rfl, rfl, rfl, h5, r5⟩ := trodAll_cons r4
  obtain ⟨v6, vs6, d6, ds6, p6, q6, rfl, rfl, rfl, h6, r6⟩ := trodAll_cons r5
  obtain ⟨v7, vs7, d7, ds7, p7, q7, rfl, rfl, rfl, h7, r7⟩ := trodAll_cons r6
  obtain ⟨v8, vs8, d8, ds8, p8, q8, rfl, rfl, rfl, h8, r8⟩ := trodAll_cons r7
  obtain ⟨v9, vs9, d9, ds9, p9, q9, rfl, rfl, rfl, h9, r9⟩ := trodAll_cons r8
  obtain ⟨v10, vs10, d10, ds10, p10, q10, rfl, rfl, rfl, h10, r10⟩ := trodAll_cons r9
  obtain ⟨v11, vs11, d11, ds11, p11, q11, rfl, rfl, rfl, h11, r11⟩ := trodAll_cons r10
  obtain ⟨rfl, rfl, rfl⟩ := trodAll_nil r11
  obtain rfl : args = #[v0, v1, v2, v3, v4, v5, v6, v7, v8, v9, v10, v11] := by cases args; simp_all
  obtain ⟨rfl, rfl⟩ := trodVars_none hV
  obtain ⟨a0, rfl, rfl, rfl, w0⟩ := open_int Trym.underlying3 (hval 0 3 v0 rfl rfl) h0
  obtain ⟨a1, len1, cap1, rfl⟩ := okWide_slice Trym.underlying22 (hval 1 22 v1 rfl rfl)
  have k1 := h1
  have lt1 : ∀ x ∈ p1, x.block < W.heap.size := by obtain ⟨m, hm⟩ := k1; exact DataW.trod_lt m _ _ _ hm
  obtain ⟨z1, w1⟩ : ∃ zs, IsRow .u8 W a1 len1 cap1 zs := by
    obtain ⟨fuel, hf⟩ := h1
    rcases open_ints Trym.underlying22 Trym.underlying5 (by kernel_rfl) hf with ⟨hcs, _⟩ | ⟨x, l, c, zs, hcs, _, hl, hm, hz, _, hcell, hwz⟩
    · simp [Value.cells] at hcs
      obtain ⟨rfl, rfl, rfl⟩ := hcs
      exact ⟨[], .inl ⟨rfl, rfl, rfl, rfl⟩⟩
    · simp [Value.cells] at hcs
      obtain ⟨rfl, rfl, rfl⟩ := hcs
      exact ⟨zs, .inr ⟨_, rfl, hl, hm, by simpa using hz, hcell, hwz⟩⟩
  obtain ⟨a2, rfl, rfl, rfl, w2⟩ := open_int Trym.underlying3 (hval 2 3 v2 rfl rfl) h2
  obtain ⟨a3, rfl, rfl, rfl⟩ := open_bool Trym.underlying4 (hval 3 4 v3 rfl rfl) h3
  obtain ⟨a4, rfl, rfl, rfl⟩ := open_bool Trym.underlying4 (hval 4 4 v4 rfl rfl) h4
  obtain ⟨a5, rfl, rfl, rfl, w5⟩ := open_int Trym.underlying3 (hval 5 3 v5 rfl rfl) h5
  obtain ⟨a6, rfl, rfl, rfl⟩ := open_bool Trym.underlying4 (hval 6 4 v6 rfl rfl) h6
  obtain ⟨a7, len7, cap7, rfl⟩ := okWide_slice Trym.underlying22 (hval 7 22 v7 rfl rfl)
  have k7 := h7
  have lt7 : ∀ x ∈ p7, x.block < W.heap.size := by obtain ⟨m, hm⟩ := k7; exact DataW.trod_lt m _ _ _ hm
  obtain ⟨z7, w7⟩ : ∃ zs, IsRow .u8 W a7 len7 cap7 zs := by
    obtain ⟨fuel, hf⟩ := h7
    rcases open_ints Trym.underlying22 Trym.underlying5 (by kernel_rfl) hf with ⟨hcs, _⟩ | ⟨x, l, c, zs, hcs, _, hl, hm, hz, _, hcell, hwz⟩
    · simp [Value.cells] at hcs
      obtain ⟨rfl, rfl, rfl⟩ := hcs
      exact ⟨[], .inl ⟨rfl, rfl, rfl, rfl⟩⟩
    · simp [Value.cells] at hcs
      obtain ⟨rfl, rfl, rfl⟩ := hcs
      exact ⟨zs, .inr ⟨_, rfl, hl, hm, by simpa using hz, hcell, hwz⟩⟩
  obtain ⟨a8, rfl, rfl, rfl⟩ := open_bool Trym.underlying4 (hval 8 4 v8 rfl rfl) h8
  obtain ⟨a9, len9, cap9, rfl⟩ := okWide_slice Trym.underlying22 (hval 9 22 v9 rfl rfl)
  have k9 := h9
  have lt9 : ∀ x ∈ p9, x.block < W.heap.size := by obtain ⟨m, hm⟩ := k9; exact DataW.trod_lt m _ _ _ hm
  obtain ⟨z9, w9⟩ : ∃ zs, IsRow .u8 W a9 len9 cap9 zs := by
    obtain ⟨fuel, hf⟩ := h9
    rcases open_ints Trym.underlying22 Trym.underlying5 (by kernel_rfl) hf with ⟨hcs, _⟩ | ⟨x, l, c, zs, hcs, _, hl, hm, hz, _, hcell, hwz⟩
    · simp [Value.cells] at hcs
      obtain ⟨rfl, rfl, rfl⟩ := hcs
      exact ⟨[], .inl ⟨rfl, rfl, rfl, rfl⟩⟩
    · simp [Value.cells] at hcs
      obtain ⟨rfl, rfl, rfl⟩ := hcs
      exact ⟨zs, .inr ⟨_, rfl, hl, hm, by simpa using hz, hcell, hwz⟩⟩
  obtain ⟨a10, rfl, rfl, rfl⟩ := open_bool Trym.underlying4 (hval 10 4 v10 rfl rfl) h10
  obtain ⟨a11, len11, cap11, rfl⟩ := okWide_slice Trym.underlying22 (hval 11 22 v11 rfl rfl)
  have k11 := h11
  have lt11 : ∀ x ∈ p11, x.block < W.heap.size := by obtain ⟨m, hm⟩ := k11; exact DataW.trod_lt m _ _ _ hm
  obtain ⟨z11, w11⟩ : ∃ zs, IsRow .u8 W a11 len11 cap11 zs := by
    obtain ⟨fuel, hf⟩ := h11
    rcases open_ints Trym.underlying22 Trym.underlying5 (by kernel_rfl) hf with ⟨hcs, _⟩ | ⟨x, l, c, zs, hcs, _, hl, hm, hz, _, hcell, hwz⟩
    · simp [Value.cells] at hcs
      obtain ⟨rfl, rfl, rfl⟩ := hcs
      exact ⟨[], .inl ⟨rfl, rfl, rfl, rfl⟩⟩
    · simp [Value.cells] at hcs
      obtain ⟨rfl, rfl, rfl⟩ := hcs
      exact ⟨zs, .inr ⟨_, rfl, hl, hm, by simpa using hz, hcell, hwz⟩⟩
  clear hA0 hval0
  refine (walk a0 a1 len1 cap1 z1 a2 a3 a4 a5 a6 a7 len7 cap7 z7 a8 a9 len9 cap9 z9 a10 a11 len11 cap11 z11 W w0 w1 w2 w5 w7 w9 w11).mono fun e W' ⟨he, bel⟩ => ?_
  subst he
  exact ⟨_, rfl, _, _, _, [], _, [], hW', trodAll_mk1 (shut_bool Trym.underlying4 _), (trodAll_cons_mk (shut_int Trym.underlying3 w0) (trodAll_cons_mk (Below.trod laidOut (by kernel_rfl) (of_decide_eq_true (by kernel_rfl)) k1 bel lt1) (trodAll_cons_mk (shut_int Trym.underlying3 w2) (trodAll_cons_mk (shut_bool Trym.underlying4 _) (trodAll_cons_mk (shut_bool Trym.underlying4 _) (trodAll_cons_mk (shut_int Trym.underlying3 w5) (trodAll_cons_mk (shut_bool Trym.underlying4 _) (trodAll_cons_mk (Below.trod laidOut (by kernel_rfl) (of_decide_eq_true (by kernel_rfl)) k7 bel lt7) (trodAll_cons_mk (shut_bool Trym.underlying4 _) (trodAll_cons_mk (Below.trod laidOut (by kernel_rfl) (of_decide_eq_true (by kernel_rfl)) k9 bel lt9) (trodAll_cons_mk (shut_bool Trym.underlying4 _) (trodAll_cons_mk (Below.trod laidOut (by kernel_rfl) (of_decide_eq_true (by kernel_rfl)) k11 bel lt11) trodAll_mk0)))))))))))), rfl, bel.frame _, fun h => by cases h⟩

theorem over : Rows.fnSplitMatchesLineModelRow.holds Trym.pinned (OpenSpec.ofChange Rows.fnSplitMatchesLineModelSpec) :=
  OpenClaim.holds_of_wide 4 Trym.f4 rfl rfl rfl rfl rfl rfl rfl ⟨rfl, rfl, rfl, rfl, rfl⟩ rfl rfl rfl rfl rfl (by kernel_rfl) Trym.func4 (by kernel_rfl)
    (of_decide_eq_true (by kernel_rfl)) (by unfold Func.isWrapper; first | (rw [if_pos (by decide +kernel)]; kernel_rfl) | (rw [if_neg (by decide +kernel)]; exact ⟨rfl, rfl⟩))
    (fun os started H enc _ => lifted os started H enc)

/-- ████ THE STATEMENT ████ -/
theorem proved : Rows.FnSplitMatchesLineModelSaid := over
#print axioms proved
end Go.Proofs.Qxb6603984aMods.fnSplitMatchesLineModel
