/-
  THE WALK OF foldByPairs AND OF FnFoldMatchesPairModel.
-/
import Derived.Test.Qxb6600919aModsZZ
namespace Go.Proofs.Qxb6600919aMods
open Go.RowKit Plain

theorem hide' {p : Prop} (h : p) : Hid p := h
theorem bel_drewN' {B : Nat} {a w : World} (h : Below B a w) (n : Nat) : Below B a (w.drewN n) := ⟨h.os, h.tape, h.output, h.size, h.block⟩

/-- 'make([]byte, 0, n)'. -/
theorem run_make0 (n : Nat) (h : n ≤ 1048576) (w : World) :
    (Instr.makeSlice 22 (.int .i64 0) (.int .i64 (n : Int))).run Trym.prog w = .ok (.slice (some ⟨w.heap.size, 0, none⟩) 0 n) (w.alloc (.cells (row (List.replicate n 0)) 5)) := by
  obtain ⟨i0, hi, hz0, hz1, hz2⟩ := info_parts Trym.info5
  have hr := run_make (P := Trym.prog) w 22 5 i0 (.int .u8 0) Trym.underlying22 hi hz0 .i64 .i64 0 (n : Int) (by omega) (by omega) (by rw [hz2]; omega) (by omega)
  have e : madeCells (Value.int .u8 0).cells (((n : Int)).toNat * i0.size) = row (List.replicate n 0) := by
    have := part_zero (List.replicate n 0)
    simp only [List.length_replicate, part, List.take_zero, Nat.sub_zero, List.nil_append] at this
    rw [← this, hz1]
    simp [Value.cells]
  rw [e] at hr
  simpa using hr

/-- 'append' onto a row of the call's own, within its room. -/
theorem wpList_append_row {w : World} {ops : Array Oper} {rest : List Oper} {o : Oper} {a : Act} {Q : Exit → Act → World → Prop}
    (hg : o.guard = none) (s x : Operand) (hop : o.op = Op.call { callee := Callee.builtin Builtin.append, args := #[s, x], argTypes := #[22, 22] })
    {g : Nat} {zs : List Int} (st : w.heap[g]? = some (.cells (row zs) 5 (0, 0))) (m N : Nat) (hN : zs.length = N) (hs : a.eval s = .slice (some ⟨g, 0, none⟩) m N)
    (b' o' : Nat) (k c : Nat) (news : List Int) (hx : a.eval x = .slice (some ⟨b', o', none⟩) k c) (hl : news.length = k)
    (hnews : ∀ i, i < k → w.cell? ⟨b', o' + i, none⟩ = some (.int .u8 (news.getD i 0))) (hfit : m + k ≤ N)
    (hK : ∀ w', w'.heap[g]? = some (.cells (row (zs.take m ++ (news ++ zs.drop (m + k)))) 5 (0, 0)) → w.grownBy w' (some g) → wpList Trym.prog ops Q rest (a.put o.dst (.slice (some ⟨g, 0, none⟩) (m + k) N)) w') :
    wpList Trym.prog ops Q (o :: rest) a w := by
  obtain ⟨i0, hi, hz0, hz1, hz2⟩ := info_parts Trym.info5
  refine wpList_plain hg fun K hK' => ?_
  have hrun := run_append_room (P := Trym.prog) w 22 o.type 5 i0 Trym.underlying22 hi g m N (row zs) st ⟨b', o', none⟩ k c (news.map (Value.int .u8)) (by simp [hz1, hl])
    (fun j u hj => by
      have hjl : j < news.length := by simpa using (List.getElem?_eq_some_iff.1 hj).1
      rw [Addr.add_lit, hnews j (by omega)]
      rw [← hj]
      simp [List.getD, hjl])
    (ints_oneCell _ _) hfit (by simp [hz1, row_size, hl, hN]; exact hfit)
  have e : ((row zs).toList.take (m * i0.size) ++ news.map (Value.int .u8) ++ (row zs).toList.drop (m * i0.size + (news.map (Value.int .u8)).length)).toArray = row (zs.take m ++ (news ++ zs.drop (m + k))) := by
    simp [row, hz1, hl, List.map_take, List.map_drop]
  rw [e] at hrun
  unfold Oper.wp
  simp [execOp, hop, resolve, invoke, builtin, hs, hx, hrun, Result.andThen]
  exact hK' _ _ (hK _ (setRow_heap w g _ _ _ _ st) ⟨rfl, rfl, rfl, by simp, fun k _ hk => setRow_other w g k _ (fun e => hk (by rw [e]))⟩)

/-- ONE STEP OF THE PAIR MODEL: what has been laid, one byte more. -/
theorem pair_step (zs' : List Int) (m N : Nat) (v : Int) (hl : zs'.length = N) (hm : m + 1 ≤ N) :
    (zs'.take m ++ ([v] ++ zs'.drop (m + 1))).length = N ∧ (zs'.take m ++ ([v] ++ zs'.drop (m + 1))).take (m + 1) = zs'.take m ++ [v] := by
  have e1 : (zs'.take m).length = m := by simp; omega
  constructor
  · simp only [List.length_append, e1, List.length_drop, List.length_singleton]; omega
  · rw [← List.append_assoc]
    exact List.take_left' (by simp only [List.length_append, e1, List.length_singleton])

theorem pair_close {R a x y t : List Int} {v : Int} (h1 : R = a ++ x) (h2 : x = v :: y) (h3 : t = a ++ [v]) : R = t ++ y := by rw [h1, h2, h3]; simp

theorem pair_start (s : Bool) (z : List Int) (h : ¬ (s = true ∧ 0 < z.length ∧ z.getD 0 0 = 10)) : (foldS s z).1 = (foldS false z).1 := by
  cases z with
  | nil => simp [foldS]
  | cons c r =>
    rw [foldS_any c r s]
    simpa using h

theorem drop_cons (z : List Int) (i : Nat) (h : i < z.length) : z.drop i = z.getD i 0 :: z.drop (i + 1) := by
  rw [List.drop_eq_getElem_cons h]
  simp [List.getD, h]

theorem pair_other (z : List Int) (i : Nat) (h : i < z.length) (h13 : z.getD i 0 ≠ 13) : (foldS false (z.drop i)).1 = z.getD i 0 :: (foldS false (z.drop (i + 1))).1 := by
  rw [drop_cons z i h, foldS_other _ _ _ (by simp) h13]

theorem pair_two (z : List Int) (i : Nat) (h : i + 1 < z.length) (h13 : z.getD i 0 = 13) (h10 : z.getD (i + 1) 0 = 10) : (foldS false (z.drop i)).1 = 10 :: (foldS false (z.drop (i + 2))).1 := by
  rw [drop_cons z i (by omega), h13, foldS_cr, drop_cons z (i + 1) h, h10, foldS_skip]

theorem pair_one (z : List Int) (i : Nat) (h : i < z.length) (h13 : z.getD i 0 = 13) (h10 : ¬ (i + 1 < z.length ∧ z.getD (i + 1) 0 = 10)) : (foldS false (z.drop i)).1 = 10 :: (foldS false (z.drop (i + 1))).1 := by
  rw [drop_cons z i h, h13, foldS_cr]
  by_cases h1 : i + 1 < z.length
  · rw [drop_cons z (i + 1) h1, foldS_any _ _ true]
    intro ⟨_, h⟩
    exact h10 ⟨h1, h⟩
  · rw [List.drop_of_length_le (by omega)]
    simp [foldS]

/-- foldByPairs AT an empty slice, nil or not. -/
theorem pairs_zero (w : World) (a : Option Addr) (c : Nat) (s : Bool) :
    Calls Trym.prog 13 #[.bool s, .slice a 0 c] w fun e w' => e = .returned (.tuple #[.slice (some ⟨w.heap.size, 0, none⟩) 0 0, .bool s]) ∧ w' = w.alloc (.cells (row []) 5) := by
  have hmk := run_make0 0 (by omega)
  simp only [Int.natCast_zero, List.replicate_zero] at hmk
  cases s
  all_goals
    go_enter Trym.func13, Trym.ntmps13
    go_wp2
    refine wp_loop_rounds 1 ?_
    rw [rounds_succ]
    go_wp2
    go_ret2
    exact ⟨rfl, rfl⟩

set_option maxHeartbeats 1000000 in
/-- foldByPairs AT a row of the caller's own. -/
theorem pairs_at (w : World) (b : Nat) (z : List Int) (s : Bool) (hN : 0 < z.length) (hb : z.length ≤ 1048576) (hg : w.heap[b]? = some (.cells (row z) 5 (0, 0))) :
    Calls Trym.prog 13 #[.bool s, .slice (some ⟨b, 0, none⟩) z.length z.length] w fun e w' =>
      e = .returned (.tuple #[.slice (some ⟨w.heap.size, 0, none⟩) (foldS s z).1.length z.length, .bool (foldS s z).2]) ∧
      ∃ zs', zs'.length = z.length ∧ zs'.take (foldS s z).1.length = (foldS s z).1 ∧ w'.heap[w.heap.size]? = some (.cells (row zs') 5 (0, 0)) ∧ Below w.heap.size w w' := by
  have hbw : b < w.heap.size := (Array.getElem?_eq_some_iff.1 hg).1
  have hmk := run_make0 z.length hb
  have HC : Hid (∀ i, i < z.length → w.cell? ⟨b, i, none⟩ = some (.int .u8 (z.getD i 0))) := fun i hi => by rw [cell_of_row w b i _ _ _ hg, row_get z i hi]
  clear hg
  obtain ⟨R, hR⟩ : ∃ R, R = foldS s z := ⟨_, rfl⟩
  rw [← hR]
  have HR := hide' hR
  clear hR
  have HR2 : Hid (0 < z.length → R.2 = (z.getD (z.length - 1) 0 == 13)) := by
    intro h
    have hne : z ≠ [] := by intro e; rw [e] at h; simp at h
    rw [HR.out, foldS_last z s hne, lastCR_getD z hne]
  -- where the loop begins
  obtain ⟨i0, hi0, HI0⟩ : ∃ i0 : Nat, ((s = true ∧ w.cell? ⟨b, 0, none⟩ = some (.int .u8 10) ∧ i0 = 1) ∨ (s = true ∧ (∃ c, w.cell? ⟨b, 0, none⟩ = some (.int .u8 c) ∧ (c == 10) = false) ∧ i0 = 0) ∨ (s = false ∧ i0 = 0)) ∧ Hid (i0 ≤ z.length ∧ R.1 = (foldS false (z.drop i0)).1) := by
    by_cases h0 : s = true ∧ 0 < z.length ∧ z.getD 0 0 = 10
    · obtain ⟨rfl, h1, h2⟩ := h0
      refine ⟨1, .inl ⟨rfl, by rw [HC.out 0 h1, h2], rfl⟩, by omega, ?_⟩
      have := drop_cons z 0 h1
      rw [List.drop_zero, h2] at this
      rw [HR.out]
      conv => lhs; rw [this]
      rw [foldS_skip]
    · refine ⟨0, ?_, Nat.zero_le _, by rw [HR.out, pair_start s z h0, List.drop_zero]⟩
      cases s with
      | false => exact .inr (.inr ⟨rfl, rfl⟩)
      | true => exact .inr (.inl ⟨rfl, ⟨_, HC.out 0 hN, by simpa [hN] using h0⟩, rfl⟩)
  clear HR
  have HOLD : ∀ (wr : World) (i : Nat), Below w.heap.size w wr → i < z.length → wr.cell? ⟨b, i, none⟩ = some (.int .u8 (z.getD i 0)) := fun wr i hbel hi => (hbel.cell (p := ⟨b, i, none⟩) hbw).trans (HC.out i hi)
  have HH := hide' HOLD
  clear HOLD
  rcases hi0 with ⟨rfl, h2, rfl⟩ | ⟨rfl, ⟨c, h2, h3⟩, rfl⟩ | ⟨rfl, rfl⟩
  all_goals
    go_enter Trym.func13, Trym.ntmps13
    go_wp2
  all_goals
    go_loopw [6, 7] (fun out i wr => ∃ (m k : Nat) (zs' : List Int), out = .slice (some ⟨w.heap.size, 0, none⟩) m z.length ∧ i = .int .i64 k ∧ m ≤ k ∧ k ≤ z.length ∧
        Hid (zs'.length = z.length) ∧ Hid (wr.heap[w.heap.size]? = some (.cells (row zs') 5 (0, 0))) ∧ Hid (R.1 = zs'.take m ++ (foldS false (z.drop k)).1) ∧ Below w.heap.size w wr)
      (fun _ i _ => z.length - (intOf i).toNat)
    case atStart =>
      first
        | exact ⟨0, 1, _, rfl, rfl, Nat.zero_le _, HI0.out.1, List.length_replicate, Go.heap_alloc_new w _, by rw [List.take_zero, List.nil_append]; exact HI0.out.2, Below.alloc (Below.refl _ _) (Nat.le_refl _) _⟩
        | exact ⟨0, 0, _, rfl, rfl, Nat.zero_le _, HI0.out.1, List.length_replicate, Go.heap_alloc_new w _, by rw [List.take_zero, List.nil_append]; exact HI0.out.2, Below.alloc (Below.refl _ _) (Nat.le_refl _) _⟩
    case round =>
      obtain ⟨m, k, zs', rfl, rfl, hle, hk, hl, hg, hr, hbel⟩ := hrel
      by_cases hlt : k < z.length
      · have hfit : m + 1 ≤ z.length := by omega
        have hck := HH.out wr k hbel hlt
        have hgs : w.heap.size < wr.heap.size := (Array.getElem?_eq_some_iff.1 hg.out).1
        have HGA : ∀ o : Obj, Hid ((wr.alloc o).heap[w.heap.size]? = some (.cells (row zs') 5 (0, 0))) := fun o => hide' ((Below.heap_alloc wr o _ hgs).trans hg.out)
        have HS := fun v => hide' (pair_step zs' m z.length v hl.out hfit)
        have HBA : ∀ o : Obj, Below w.heap.size w (wr.alloc o) := fun o => hbel.alloc (by omega) o
        by_cases h13 : z.getD k 0 = 13
        · rw [h13] at hck
          by_cases h10 : k + 1 < z.length ∧ z.getD (k + 1) 0 = 10
          · have HP := hide' (pair_two z k h10.1 h13 h10.2)
            have hck2 := HH.out wr (k + 1) hbel h10.1
            rw [h10.2] at hck2
            have hlt2 := h10.1
            clear h10 h13
            go_wp2_with (at_builtin; refine wpList_append_row rfl (.tmp 55) (.tmp 56) rfl (HGA _).out m z.length hl.out rfl wr.heap.size 0 1 1 [10] rfl rfl (one_new wr 10) hfit ?_; intro w2 hg2 hgr2)
            go_roundw
            case rel => exact ⟨m + 1, k + 2, _, rfl, by go_num, by omega, by omega, (HS 10).out.1, hg2, pair_close hr.out HP.out (HS 10).out.2, Below.grown (HBA _) hgr2 (by simp; omega) (fun k hk => by simp at hk; omega)⟩
            case measure => simp [intOf]; omega
          · have HP := hide' (pair_one z k hlt h13 h10)
            by_cases hlt2 : k + 1 < z.length
            · have hck2 := HH.out wr (k + 1) hbel hlt2
              have hd : (z.getD (k + 1) 0 == 10) = false := by simpa [hlt2] using h10
              generalize z.getD (k + 1) 0 = d at hck2 hd
              clear h10 h13
              go_wp2_with (at_builtin; refine wpList_append_row rfl (.tmp 60) (.tmp 61) rfl (HGA _).out m z.length hl.out rfl wr.heap.size 0 1 1 [10] rfl rfl (one_new wr 10) hfit ?_; intro w2 hg2 hgr2)
              go_roundw
              case rel => exact ⟨m + 1, k + 1, _, rfl, by go_num, by omega, by omega, (HS 10).out.1, hg2, pair_close hr.out HP.out (HS 10).out.2, Below.grown (HBA _) hgr2 (by simp; omega) (fun k hk => by simp at hk; omega)⟩
              case measure => simp [intOf]; omega
            · clear h10 h13
              go_wp2_with (at_builtin; refine wpList_append_row rfl (.tmp 60) (.tmp 61) rfl (HGA _).out m z.length hl.out rfl wr.heap.size 0 1 1 [10] rfl rfl (one_new wr 10) hfit ?_; intro w2 hg2 hgr2)
              go_roundw
              case rel => exact ⟨m + 1, k + 1, _, rfl, by go_num, by omega, by omega, (HS 10).out.1, hg2, pair_close hr.out HP.out (HS 10).out.2, Below.grown (HBA _) hgr2 (by simp; omega) (fun k hk => by simp at hk; omega)⟩
              case measure => simp [intOf]; omega
        · have HP := hide' (pair_other z k hlt h13)
          have hd : (z.getD k 0 != 13) = true := by simpa using h13
          generalize z.getD k 0 = d at hck hd HP
          clear h13
          go_wp2_with (at_builtin; refine wpList_append_row rfl (.tmp 33) (.tmp 38) rfl (HGA _).out m z.length hl.out rfl wr.heap.size 0 1 1 [d] rfl rfl (one_new wr d) hfit ?_; intro w2 hg2 hgr2)
          go_roundw
          case rel => exact ⟨m + 1, k + 1, _, rfl, by go_num, by omega, by omega, (HS d).out.1, hg2, pair_close hr.out HP.out (HS d).out.2, Below.grown (HBA _) hgr2 (by simp; omega) (fun k hk => by simp at hk; omega)⟩
          case measure => simp [intOf]; omega
      · obtain rfl : k = z.length := by omega
        have hRl : Hid (R.1 = zs'.take m) := by
          show _ = _
          rw [hr.out, List.drop_of_length_le (Nat.le_refl _)]
          simp [foldS]
        have hml : Hid (R.1.length = m) := by
          show _ = _
          rw [hRl.out, List.length_take, hl.out]
          omega
        have hck := HH.out wr (z.length - 1) hbel (by omega)
        have HE := hide' (HR2.out hN)
        generalize z.getD (z.length - 1) 0 = d at hck HE
        go_wp2
        go_ret2
        rw [hml.out, HE.out]
        exact ⟨rfl, zs', hl.out, hRl.out.symm, hg.out, hbel⟩

end Go.Proofs.Qxb6600919aMods
