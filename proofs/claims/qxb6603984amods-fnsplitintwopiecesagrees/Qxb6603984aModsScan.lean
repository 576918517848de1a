/-
  THE WALKS OF upTo, inString, startValue, indexFrom.
-/
import Derived.Test.Qxb6603984aModsMem
namespace Go.Proofs.Qxb6603984aMods
open Go.RowKit Plain

theorem one_new (w : World) (v : Int) : ∀ j u, [Value.int .u8 v][j]? = some u → (w.alloc (.cells #[.int .u8 v] 5)).cell? ((⟨w.heap.size, 0, none⟩ : Addr).add j) = some u := by
  intro j u hj
  match j, hj with
  | 0, hj =>
    simp at hj
    subst hj
    rw [Addr.add_lit, World.cell?_alloc_at _ _ _ _ rfl]
    rfl

/-- upTo: the bound is met: nothing is appended. -/
theorem upto_full (ao : Option Addr) (n c : Nat) (x : Int) (m : Nat) (w : World) (h : m < n) (_hm : m ≤ 64) (_hn : n ≤ 9223372036854775807) :
    Calls Trym.prog 27 #[.slice ao n c, .int .u8 x, .int .i64 m] w fun e w' => e = .returned (.slice ao n c) ∧ w = w' := by
  go_enter Trym.func27, Trym.ntmps27
  go_wp2
  go_ret
  exact ⟨rfl, rfl⟩

theorem own1 {w w1 : World} {ao : Option Addr} {c g cap : Nat} {xs : List Int} {x : Int} (hown : w1.ownsRow 0 5 1 (.slice (some ⟨g, 0, none⟩) (xs.length + 1) cap) (xs.length + 1) (xs.map (Value.int .u8) ++ [Value.int .u8 x]))
    (hgrow : (w.alloc (.cells #[.int .u8 x] 5)).grownBy w1 (Value.slice ao xs.length c).ownBlock) (hat : (Value.slice ao xs.length c).ownBlock = some g ∨ g = (w.alloc (.cells #[.int .u8 x] 5)).heap.size) :
    Own w1 (some ⟨g, 0, none⟩) cap (xs ++ [x]) ∧ w.grownBy w1 (blk ao) ∧ (∀ g', blk (some (⟨g, 0, none⟩ : Addr)) = some g' → blk ao = some g' ∨ w.heap.size ≤ g') := by
  refine ⟨?_, ?_, ?_⟩
  · have e : (xs ++ [x]).length = xs.length + 1 := by simp
    unfold Own
    rw [e, List.map_append]
    exact hown
  · rw [own_blk] at hgrow
    refine ⟨hgrow.os, hgrow.tape, hgrow.output, ?_, ?_⟩
    · have := hgrow.size; simp at this; omega
    · intro k hk hne
      rw [hgrow.block k (by simp; omega) hne, Below.heap_alloc _ _ _ hk]
  · intro g' hg'
    simp [blk] at hg'
    subst hg'
    rw [own_blk] at hat
    rcases hat with h1 | h1
    · exact .inl h1
    · right; simp at h1; omega

/-- 'append(xs, x)' onto a row that the call owns. -/
theorem wpList_own1 {w : World} {ops : Array Oper} {rest : List Oper} {o : Oper} {a : Act} {Q : Exit → Act → World → Prop} (hgd : o.guard = none) (s y : Operand)
    (hop : o.op = .call { callee := .builtin .append, args := #[s, y], argTypes := #[22, 22] }) {ao : Option Addr} {c : Nat} {xs : List Int} (ho : Own w ao c xs) (hl : xs.length ≤ 1000000000) (x : Int)
    (hs : a.eval s = .slice ao xs.length c) (hy : a.eval y = .slice (some ⟨w.heap.size, 0, none⟩) 1 1)
    (hK : ∀ g cap w', Own w' (some ⟨g, 0, none⟩) cap (xs ++ [x]) → w.grownBy w' (blk ao) → (∀ g', blk (some (⟨g, 0, none⟩ : Addr)) = some g' → blk ao = some g' ∨ w.heap.size ≤ g') → wpList Trym.prog ops Q rest (a.put o.dst (.slice (some ⟨g, 0, none⟩) (xs.length + 1) cap)) w') :
    wpList Trym.prog ops Q (o :: rest) a (w.alloc (.cells #[.int .u8 x] 5)) := by
  obtain ⟨i0, hi, hz0, hz1, hz2⟩ := info_parts Trym.info5
  refine wpList_append_lies _ hgd s y 22 hop 0 5 i0 (.int .u8 0) 1 1 Trym.underlying22 hi hz0 hz1 hz2 rfl (by decide) (.slice ao xs.length c) xs.length (xs.map (Value.int .u8)) hs (World.ownsRow.alloc ho _) ⟨w.heap.size, 0, none⟩ 1 1 [.int .u8 x] hy rfl (one_new w x) (by simp [Value.oneCell']) (by decide) (by unfold maxLen; omega) (by omega) (Nat.zero_le _) _ rfl ?_
  intro g cap w1 hown hgrow hat _
  obtain ⟨h1, h2, h3⟩ := own1 hown hgrow hat
  exact hK g cap w1 h1 h2 h3

set_option maxHeartbeats 400000 in
/-- upTo: one byte more. -/
theorem upto_more (ao : Option Addr) (c : Nat) (xs : List Int) (x : Int) (m : Nat) (w : World) (ho : Own w ao c xs) (h : ¬ m < xs.length) (hm : m ≤ 64) :
    Calls Trym.prog 27 #[.slice ao xs.length c, .int .u8 x, .int .i64 m] w fun e w' => ∃ ao' c', e = .returned (.slice ao' (xs.length + 1) c') ∧ Own w' ao' c' (xs ++ [x]) ∧ w.grownBy w' (blk ao) ∧ (∀ g, blk ao' = some g → blk ao = some g ∨ w.heap.size ≤ g) := by
  have HO := hide ho
  clear ho
  go_enter Trym.func27, Trym.ntmps27
  go_wp2_with (at_builtin; refine wpList_own1 rfl (.tmp 12) (.tmp 14) rfl HO.out (by omega) x rfl rfl ?_; intro g cap w1 h1 h2 h3)
  go_ret
  exact ⟨some ⟨g, 0, none⟩, cap, rfl, h1, h2, h3⟩

/-- upTo. -/
theorem upto_any (ao : Option Addr) (c : Nat) (xs : List Int) (x : Int) (m : Nat) (M : Int) (hM : M = (m : Int)) (w : World) (ho : Own w ao c xs) (hm : m ≤ 64) :
    Calls Trym.prog 27 #[.slice ao xs.length c, .int .u8 x, .int .i64 M] w fun e w' => ∃ ao' c', e = .returned (.slice ao' (upL xs x m).length c') ∧ Own w' ao' c' (upL xs x m) ∧ w.grownBy w' (blk ao) ∧ (∀ g, blk ao' = some g → blk ao = some g ∨ w.heap.size ≤ g) := by
  subst hM
  by_cases h : m < xs.length
  · have hlen : xs.length ≤ 9223372036854775807 := by
      rcases ho.form with ⟨_, _, rfl⟩ | ⟨g, cur, _, _, h1, h2, _⟩
      · simp
      · unfold maxLen at h2; omega
    refine (upto_full ao xs.length c x m w h hm hlen).mono ?_
    rintro e w' ⟨rfl, rfl⟩
    rw [upL, if_pos h]
    exact ⟨ao, c, rfl, ho, World.grownBy.refl _ _, fun g hg => .inl hg⟩
  · refine (upto_more ao c xs x m w ho h hm).mono ?_
    rintro e w' ⟨ao', c', rfl, h1, h2, h3⟩
    rw [upL, if_neg h]
    exact ⟨ao', c', by simp, h1, h2, h3⟩

/-- What inString is asked to do. -/
def Doing (w : World) (sb : Nat) (ka ra : Option Addr) (S' : Sc) (w' : World) : Prop := ∃ ka' kc' ra' rc', ScanAt w' sb ka' kc' ra' rc' S' ∧ Frm w sb ka ra w' ka' ra'

set_option maxHeartbeats 1000000 in
/-- inString: the closing quote of a key. -/
theorem instr_key (w : World) (sb : Nat) (ka : Option Addr) (kc : Nat) (ra : Option Addr) (rc : Nat) (S : Sc) (h : ScanAt w sb ka kc ra rc S) (h1 : S.esc = false) (h2 : S.inKey = true) :
    Calls Trym.prog 23 #[.pointer (some ⟨sb, 0, none⟩), .int .u8 34] w fun e w' => e = .returned (.tuple #[]) ∧ Doing w sb ka ra (inStr S 34) w' := by
  have e : inStr S 34 = { S with str := false, inKey := false, pos := 2 } := by simp [inStr, h1, h2]
  rw [e]
  obtain ⟨hcell, hfroz⟩ := told h.cells
  have H := hide h
  simp only [fld, h1, h2] at hcell
  clear h e
  go_enter Trym.func23, Trym.ntmps23
  go_wp2
  refine bodyPost_ret (results_none rfl _ _ _) rfl ?_
  exact ⟨rfl, ka, kc, ra, rc, ((H.out.store 1 (.bool false) { S with str := false } rfl rfl rfl).store 4 (.bool false) { S with str := false, inKey := false } rfl rfl rfl).store 3 (.int .i64 2) _ rfl rfl rfl,
    ((ScanAt.frm_store _ _ _ _ _ _).trans (ScanAt.frm_store _ _ _ _ _ _)).trans (ScanAt.frm_store _ _ _ _ _ _)⟩

set_option maxHeartbeats 1000000 in
/-- inString: the closing quote of a string that is no key. -/
theorem instr_close (w : World) (sb : Nat) (ka : Option Addr) (kc : Nat) (ra : Option Addr) (rc : Nat) (S : Sc) (h : ScanAt w sb ka kc ra rc S) (h1 : S.esc = false) (h2 : S.inKey = false) :
    Calls Trym.prog 23 #[.pointer (some ⟨sb, 0, none⟩), .int .u8 34] w fun e w' => e = .returned (.tuple #[]) ∧ Doing w sb ka ra (inStr S 34) w' := by
  have e : inStr S 34 = { S with str := false, inID := false, esc := false, raw := if S.inID = true then upL S.raw 34 64 else S.raw } := by simp [inStr, h1, h2]
  rw [e]
  clear e
  obtain ⟨hcell, hfroz⟩ := told h.cells
  have H := hide h
  clear h
  cases h3 : S.inID with
  | false =>
    simp only [fld, h1, h2, h3] at hcell
    rw [if_neg (by simp)]
    clear h3
    go_enter Trym.func23, Trym.ntmps23
    go_wp2
    go_end0
    refine ⟨rfl, ka, kc, ra, rc, ((H.out.store 2 (.bool false) { S with esc := false } rfl rfl rfl).store 1 (.bool false) { S with esc := false, str := false } rfl rfl rfl).store 6 (.bool false) _ rfl rfl rfl,
      ((ScanAt.frm_store _ _ _ _ _ _).trans (ScanAt.frm_store _ _ _ _ _ _)).trans (ScanAt.frm_store _ _ _ _ _ _)⟩
  | true =>
    simp only [fld, h1, h2, h3] at hcell
    rw [if_pos rfl]
    clear h3
    go_enter Trym.func23, Trym.ntmps23
    go_wp2_with fail
    refine (upto_any ra rc S.raw 34 64 64 rfl w H.out.raw (by decide)).mono ?_
    rintro e w1 ⟨ra', rc', rfl, o1, g1, n1⟩
    obtain ⟨hcell1, hfroz1⟩ := told (H.out.keepRaw g1)
    have N := hide (H.out.newRaw g1 o1 n1)
    simp only [fld] at hcell1
    clear o1 g1 n1 hcell hfroz H
    simp only [h1, h2] at hcell1
    go_wp2
    go_end0
    refine ⟨rfl, ka, kc, ra', rc', ((N.out.1.store 2 (.bool false) { S with raw := upL S.raw 34 64, esc := false } rfl rfl rfl).store 1 (.bool false) { S with raw := upL S.raw 34 64, esc := false, str := false } rfl rfl rfl).store 6 (.bool false) _ rfl rfl rfl,
      N.out.2.trans (((ScanAt.frm_store _ _ _ _ _ _).trans (ScanAt.frm_store _ _ _ _ _ _)).trans (ScanAt.frm_store _ _ _ _ _ _))⟩


set_option maxHeartbeats 1000000 in
theorem instr_000 (w : World) (sb : Nat) (ka : Option Addr) (kc : Nat) (ra : Option Addr) (rc : Nat) (S : Sc) (c : Int) (h : ScanAt w sb ka kc ra rc S) (h1 : S.esc = false) (h2 : S.inKey = false) (h3 : S.inID = false) (hc : (c == 34) = false) :
    Calls Trym.prog 23 #[.pointer (some ⟨sb, 0, none⟩), .int .u8 c] w fun e w' => e = .returned (.tuple #[]) ∧ Doing w sb ka ra { S with esc := (c == 92) } w' := by
  obtain ⟨hcell, hfroz⟩ := told h.cells
  have H := hide h
  simp only [fld, h1, h2, h3] at hcell
  clear h
  go_enter Trym.func23, Trym.ntmps23
  go_wp2
  go_end0
  exact ⟨rfl, ka, kc, ra, rc, H.out.store 2 (.bool (c == 92)) _ rfl rfl rfl, ScanAt.frm_store _ _ _ _ _ _⟩

set_option maxHeartbeats 1000000 in
theorem instr_001 (w : World) (sb : Nat) (ka : Option Addr) (kc : Nat) (ra : Option Addr) (rc : Nat) (S : Sc) (c : Int) (h : ScanAt w sb ka kc ra rc S) (h1 : S.esc = false) (h2 : S.inKey = false) (h3 : S.inID = true) (hc : (c == 34) = false) :
    Calls Trym.prog 23 #[.pointer (some ⟨sb, 0, none⟩), .int .u8 c] w fun e w' => e = .returned (.tuple #[]) ∧ Doing w sb ka ra { S with raw := upL S.raw c 64, esc := (c == 92) } w' := by
  obtain ⟨hcell, hfroz⟩ := told h.cells
  have H := hide h
  simp only [fld, h1, h2, h3] at hcell
  clear h
  go_enter Trym.func23, Trym.ntmps23
  go_wp2_with fail
  refine (upto_any ra rc S.raw c 64 64 rfl _ H.out.raw (by decide)).mono ?_
  rintro e w2 ⟨ra', rc', rfl, o2, g2, n2⟩
  obtain ⟨hcell2, hfroz2⟩ := told (H.out.keepRaw g2)
  have M := hide (H.out.newRaw g2 o2 n2)
  simp only [fld, h1, h2, h3] at hcell2
  clear o2 g2 n2 hcell hfroz H
  go_wp2
  go_end0
  exact ⟨rfl, ka, kc, ra', rc', M.out.1.store 2 (.bool (c == 92)) _ rfl rfl rfl, M.out.2.trans (ScanAt.frm_store _ _ _ _ _ _)⟩

set_option maxHeartbeats 1000000 in
theorem instr_010 (w : World) (sb : Nat) (ka : Option Addr) (kc : Nat) (ra : Option Addr) (rc : Nat) (S : Sc) (c : Int) (h : ScanAt w sb ka kc ra rc S) (h1 : S.esc = false) (h2 : S.inKey = true) (h3 : S.inID = false) (hc : (c == 34) = false) :
    Calls Trym.prog 23 #[.pointer (some ⟨sb, 0, none⟩), .int .u8 c] w fun e w' => e = .returned (.tuple #[]) ∧ Doing w sb ka ra { S with key := upL S.key c 6, esc := (c == 92) } w' := by
  obtain ⟨hcell, hfroz⟩ := told h.cells
  have H := hide h
  simp only [fld, h1, h2, h3] at hcell
  clear h
  go_enter Trym.func23, Trym.ntmps23
  go_wp2_with fail
  refine (upto_any ka kc S.key c 6 6 rfl w H.out.key (by decide)).mono ?_
  rintro e w1 ⟨ka', kc', rfl, o1, g1, n1⟩
  obtain ⟨hcell1, hfroz1⟩ := told (H.out.keepKey g1)
  have N := hide (H.out.newKey g1 o1 n1)
  simp only [fld, h1, h2, h3] at hcell1
  clear o1 g1 n1 hcell hfroz H
  go_wp2
  go_end0
  exact ⟨rfl, ka', kc', ra, rc, N.out.1.store 2 (.bool (c == 92)) _ rfl rfl rfl, N.out.2.trans (ScanAt.frm_store _ _ _ _ _ _)⟩

set_option maxHeartbeats 1000000 in
theorem instr_011 (w : World) (sb : Nat) (ka : Option Addr) (kc : Nat) (ra : Option Addr) (rc : Nat) (S : Sc) (c : Int) (h : ScanAt w sb ka kc ra rc S) (h1 : S.esc = false) (h2 : S.inKey = true) (h3 : S.inID = true) (hc : (c == 34) = false) :
    Calls Trym.prog 23 #[.pointer (some ⟨sb, 0, none⟩), .int .u8 c] w fun e w' => e = .returned (.tuple #[]) ∧ Doing w sb ka ra { S with key := upL S.key c 6, raw := upL S.raw c 64, esc := (c == 92) } w' := by
  obtain ⟨hcell, hfroz⟩ := told h.cells
  have H := hide h
  simp only [fld, h1, h2, h3] at hcell
  clear h
  go_enter Trym.func23, Trym.ntmps23
  go_wp2_with fail
  refine (upto_any ka kc S.key c 6 6 rfl w H.out.key (by decide)).mono ?_
  rintro e w1 ⟨ka', kc', rfl, o1, g1, n1⟩
  obtain ⟨hcell1, hfroz1⟩ := told (H.out.keepKey g1)
  have N := hide (H.out.newKey g1 o1 n1)
  simp only [fld, h1, h2, h3] at hcell1
  clear o1 g1 n1 hcell hfroz H
  go_wp2_with fail
  refine (upto_any ra rc S.raw c 64 64 rfl _ N.out.1.raw (by decide)).mono ?_
  rintro e w2 ⟨ra', rc', rfl, o2, g2, n2⟩
  obtain ⟨hcell2, hfroz2⟩ := told (N.out.1.keepRaw g2)
  have M := hide (N.out.1.newRaw g2 o2 n2)
  simp only [fld, h1, h2, h3] at hcell2
  clear o2 g2 n2 hcell1 hfroz1
  go_wp2
  go_end0
  exact ⟨rfl, ka', kc', ra', rc', M.out.1.store 2 (.bool (c == 92)) _ rfl rfl rfl, (N.out.2.trans M.out.2).trans (ScanAt.frm_store _ _ _ _ _ _)⟩

set_option maxHeartbeats 1000000 in
theorem instr_100 (w : World) (sb : Nat) (ka : Option Addr) (kc : Nat) (ra : Option Addr) (rc : Nat) (S : Sc) (c : Int) (h : ScanAt w sb ka kc ra rc S) (h1 : S.esc = true) (h2 : S.inKey = false) (h3 : S.inID = false) :
    Calls Trym.prog 23 #[.pointer (some ⟨sb, 0, none⟩), .int .u8 c] w fun e w' => e = .returned (.tuple #[]) ∧ Doing w sb ka ra { S with esc := false } w' := by
  obtain ⟨hcell, hfroz⟩ := told h.cells
  have H := hide h
  simp only [fld, h1, h2, h3] at hcell
  clear h
  go_enter Trym.func23, Trym.ntmps23
  go_wp2
  go_end0
  exact ⟨rfl, ka, kc, ra, rc, H.out.store 2 (.bool false) _ rfl rfl rfl, ScanAt.frm_store _ _ _ _ _ _⟩

set_option maxHeartbeats 1000000 in
theorem instr_101 (w : World) (sb : Nat) (ka : Option Addr) (kc : Nat) (ra : Option Addr) (rc : Nat) (S : Sc) (c : Int) (h : ScanAt w sb ka kc ra rc S) (h1 : S.esc = true) (h2 : S.inKey = false) (h3 : S.inID = true) :
    Calls Trym.prog 23 #[.pointer (some ⟨sb, 0, none⟩), .int .u8 c] w fun e w' => e = .returned (.tuple #[]) ∧ Doing w sb ka ra { S with raw := upL S.raw c 64, esc := false } w' := by
  obtain ⟨hcell, hfroz⟩ := told h.cells
  have H := hide h
  simp only [fld, h1, h2, h3] at hcell
  clear h
  go_enter Trym.func23, Trym.ntmps23
  go_wp2_with fail
  refine (upto_any ra rc S.raw c 64 64 rfl _ H.out.raw (by decide)).mono ?_
  rintro e w2 ⟨ra', rc', rfl, o2, g2, n2⟩
  obtain ⟨hcell2, hfroz2⟩ := told (H.out.keepRaw g2)
  have M := hide (H.out.newRaw g2 o2 n2)
  simp only [fld, h1, h2, h3] at hcell2
  clear o2 g2 n2 hcell hfroz H
  go_wp2
  go_end0
  exact ⟨rfl, ka, kc, ra', rc', M.out.1.store 2 (.bool false) _ rfl rfl rfl, M.out.2.trans (ScanAt.frm_store _ _ _ _ _ _)⟩

set_option maxHeartbeats 1000000 in
theorem instr_110 (w : World) (sb : Nat) (ka : Option Addr) (kc : Nat) (ra : Option Addr) (rc : Nat) (S : Sc) (c : Int) (h : ScanAt w sb ka kc ra rc S) (h1 : S.esc = true) (h2 : S.inKey = true) (h3 : S.inID = false) :
    Calls Trym.prog 23 #[.pointer (some ⟨sb, 0, none⟩), .int .u8 c] w fun e w' => e = .returned (.tuple #[]) ∧ Doing w sb ka ra { S with key := upL S.key c 6, esc := false } w' := by
  obtain ⟨hcell, hfroz⟩ := told h.cells
  have H := hide h
  simp only [fld, h1, h2, h3] at hcell
  clear h
  go_enter Trym.func23, Trym.ntmps23
  go_wp2_with fail
  refine (upto_any ka kc S.key c 6 6 rfl w H.out.key (by decide)).mono ?_
  rintro e w1 ⟨ka', kc', rfl, o1, g1, n1⟩
  obtain ⟨hcell1, hfroz1⟩ := told (H.out.keepKey g1)
  have N := hide (H.out.newKey g1 o1 n1)
  simp only [fld, h1, h2, h3] at hcell1
  clear o1 g1 n1 hcell hfroz H
  go_wp2
  go_end0
  exact ⟨rfl, ka', kc', ra, rc, N.out.1.store 2 (.bool false) _ rfl rfl rfl, N.out.2.trans (ScanAt.frm_store _ _ _ _ _ _)⟩

set_option maxHeartbeats 1000000 in
theorem instr_111 (w : World) (sb : Nat) (ka : Option Addr) (kc : Nat) (ra : Option Addr) (rc : Nat) (S : Sc) (c : Int) (h : ScanAt w sb ka kc ra rc S) (h1 : S.esc = true) (h2 : S.inKey = true) (h3 : S.inID = true) :
    Calls Trym.prog 23 #[.pointer (some ⟨sb, 0, none⟩), .int .u8 c] w fun e w' => e = .returned (.tuple #[]) ∧ Doing w sb ka ra { S with key := upL S.key c 6, raw := upL S.raw c 64, esc := false } w' := by
  obtain ⟨hcell, hfroz⟩ := told h.cells
  have H := hide h
  simp only [fld, h1, h2, h3] at hcell
  clear h
  go_enter Trym.func23, Trym.ntmps23
  go_wp2_with fail
  refine (upto_any ka kc S.key c 6 6 rfl w H.out.key (by decide)).mono ?_
  rintro e w1 ⟨ka', kc', rfl, o1, g1, n1⟩
  obtain ⟨hcell1, hfroz1⟩ := told (H.out.keepKey g1)
  have N := hide (H.out.newKey g1 o1 n1)
  simp only [fld, h1, h2, h3] at hcell1
  clear o1 g1 n1 hcell hfroz H
  go_wp2_with fail
  refine (upto_any ra rc S.raw c 64 64 rfl _ N.out.1.raw (by decide)).mono ?_
  rintro e w2 ⟨ra', rc', rfl, o2, g2, n2⟩
  obtain ⟨hcell2, hfroz2⟩ := told (N.out.1.keepRaw g2)
  have M := hide (N.out.1.newRaw g2 o2 n2)
  simp only [fld, h1, h2, h3] at hcell2
  clear o2 g2 n2 hcell1 hfroz1
  go_wp2
  go_end0
  exact ⟨rfl, ka', kc', ra', rc', M.out.1.store 2 (.bool false) _ rfl rfl rfl, (N.out.2.trans M.out.2).trans (ScanAt.frm_store _ _ _ _ _ _)⟩

/-- inString. -/
theorem instr_any (w : World) (sb : Nat) (ka : Option Addr) (kc : Nat) (ra : Option Addr) (rc : Nat) (S : Sc) (c : Int) (h : ScanAt w sb ka kc ra rc S) :
    Calls Trym.prog 23 #[.pointer (some ⟨sb, 0, none⟩), .int .u8 c] w fun e w' => e = .returned (.tuple #[]) ∧ Doing w sb ka ra (inStr S c) w' := by
  by_cases hc : S.esc = false ∧ c = 34
  · obtain ⟨h1, rfl⟩ := hc
    rcases Bool.eq_false_or_eq_true S.inKey with h2 | h2
    · exact instr_key w sb ka kc ra rc S h h1 h2
    · exact instr_close w sb ka kc ra rc S h h1 h2
  · rcases Bool.eq_false_or_eq_true S.esc with h1 | h1
    · rcases Bool.eq_false_or_eq_true S.inKey with h2 | h2
      · rcases Bool.eq_false_or_eq_true S.inID with h3 | h3
        · have e : inStr S c = { S with key := upL S.key c 6, raw := upL S.raw c 64, esc := false } := by
            unfold inStr
            rw [if_neg hc]
            simp [h1, h2, h3]
          rw [e]
          exact instr_111 w sb ka kc ra rc S c h h1 h2 h3
        · have e : inStr S c = { S with key := upL S.key c 6, esc := false } := by
            unfold inStr
            rw [if_neg hc]
            simp [h1, h2, h3]
          rw [e]
          exact instr_110 w sb ka kc ra rc S c h h1 h2 h3
      · rcases Bool.eq_false_or_eq_true S.inID with h3 | h3
        · have e : inStr S c = { S with raw := upL S.raw c 64, esc := false } := by
            unfold inStr
            rw [if_neg hc]
            simp [h1, h2, h3]
          rw [e]
          exact instr_101 w sb ka kc ra rc S c h h1 h2 h3
        · have e : inStr S c = { S with esc := false } := by
            unfold inStr
            rw [if_neg hc]
            simp [h1, h2, h3]
          rw [e]
          exact instr_100 w sb ka kc ra rc S c h h1 h2 h3
    · have hc' : (c == 34) = false := by
        rw [beq_eq_false_iff_ne]
        intro e
        exact hc ⟨h1, e⟩
      rcases Bool.eq_false_or_eq_true S.inKey with h2 | h2
      · rcases Bool.eq_false_or_eq_true S.inID with h3 | h3
        · have e : inStr S c = { S with key := upL S.key c 6, raw := upL S.raw c 64, esc := (c == 92) } := by
            unfold inStr
            rw [if_neg hc]
            simp [h1, h2, h3]
          rw [e]
          exact instr_011 w sb ka kc ra rc S c h h1 h2 h3 hc'
        · have e : inStr S c = { S with key := upL S.key c 6, esc := (c == 92) } := by
            unfold inStr
            rw [if_neg hc]
            simp [h1, h2, h3]
          rw [e]
          exact instr_010 w sb ka kc ra rc S c h h1 h2 h3 hc'
      · rcases Bool.eq_false_or_eq_true S.inID with h3 | h3
        · have e : inStr S c = { S with raw := upL S.raw c 64, esc := (c == 92) } := by
            unfold inStr
            rw [if_neg hc]
            simp [h1, h2, h3]
          rw [e]
          exact instr_001 w sb ka kc ra rc S c h h1 h2 h3 hc'
        · have e : inStr S c = { S with esc := (c == 92) } := by
            unfold inStr
            rw [if_neg hc]
            simp [h1, h2, h3]
          rw [e]
          exact instr_000 w sb ka kc ra rc S c h h1 h2 h3 hc'

end Go.Proofs.Qxb6603984aMods
