/-
  THE WALK OF (*newlineFold).fold AND OF ZZFold.
-/
import Derived.Test.Qxb6600919aModsWalks
namespace Go.Proofs.Qxb6600919aMods
open Go.RowKit Plain

/-- THE STATE OF THE FOLD: the row g holds zs, the box fb holds the flag s; all else that was there in w0 is as it was. -/
structure St (w0 w : World) (g fb : Nat) (zs : List Int) (s : Bool) : Prop where
  ne : g ≠ fb
  cells : w.heap[g]? = some (.cells (row zs) 5 (0, 0))
  flag : w.heap[fb]? = some (.cells #[.bool s] 40 (0, 0))
  os : w.os = w0.os
  tape : w.tape = w0.tape
  output : w.output = w0.output
  size : w0.heap.size ≤ w.heap.size
  block : ∀ k, k < w0.heap.size → k ≠ g → k ≠ fb → w.heap[k]? = w0.heap[k]?

namespace St
variable {w0 w : World} {g fb : Nat} {zs : List Int} {s : Bool}

theorem cellF (h : St w0 w g fb zs s) : w.cell? ⟨fb, 0, none⟩ = some (.bool s) := by
  rw [cell_of_row w fb 0 _ _ _ h.flag]; rfl

theorem frozF (h : St w0 w g fb zs s) : w.frozen? ⟨fb, 0, none⟩ = false := frozen_of_row w fb 0 _ _ h.flag

theorem cellG (h : St w0 w g fb zs s) (i : Nat) (hi : i < zs.length) : w.cell? ⟨g, i, none⟩ = some (.int .u8 (zs.getD i 0)) := by
  rw [cell_of_row w g i _ _ _ h.cells, row_get zs i hi]

theorem store (h : St w0 w g fb zs s) (s' : Bool) : St w0 (w.setCell ⟨fb, 0, none⟩ (.bool s')) g fb zs s' where
  ne := h.ne
  cells := by rw [heap_setCell_other _ _ _ _ h.ne]; exact h.cells
  flag := heap_setCell_same w fb 0 _ _ _ h.flag
  os := h.os
  tape := h.tape
  output := h.output
  size := by simp [World.setCell]; exact h.size
  block := fun k hk h1 h2 => by rw [heap_setCell_other _ _ _ _ h2]; exact h.block k hk h1 h2

theorem ltG (h : St w0 w g fb zs s) : g < w.heap.size := (Array.getElem?_eq_some_iff.1 h.cells).1
theorem ltF (h : St w0 w g fb zs s) : fb < w.heap.size := (Array.getElem?_eq_some_iff.1 h.flag).1

theorem alloc (h : St w0 w g fb zs s) (o : Obj) : St w0 (w.alloc o) g fb zs s where
  ne := h.ne
  cells := by rw [Below.heap_alloc _ _ _ h.ltG]; exact h.cells
  flag := by rw [Below.heap_alloc _ _ _ h.ltF]; exact h.flag
  os := h.os
  tape := h.tape
  output := h.output
  size := by have := h.size; simp; omega
  block := fun k hk h1 h2 => by rw [Below.heap_alloc _ _ _ (by have := h.size; omega)]; exact h.block k hk h1 h2

theorem setRow (h : St w0 w g fb zs s) (zs' : List Int) : St w0 (w.setRow g (row zs')) g fb zs' s where
  ne := h.ne
  cells := setRow_heap w g _ _ _ _ h.cells
  flag := by rw [setRow_other _ _ _ _ (Ne.symm h.ne)]; exact h.flag
  os := h.os
  tape := h.tape
  output := h.output
  size := by simp; exact h.size
  block := fun k hk h1 h2 => by rw [setRow_other _ _ _ _ h1]; exact h.block k hk h1 h2

theorem refl (hne : g ≠ fb) (h1 : w.heap[g]? = some (.cells (row zs) 5 (0, 0))) (h2 : w.heap[fb]? = some (.cells #[.bool s] 40 (0, 0))) : St w w g fb zs s :=
  ⟨hne, h1, h2, rfl, rfl, rfl, Nat.le_refl _, fun _ _ _ _ => rfl⟩

end St

/-- 'append' onto the row, WITHIN ITS ROOM, from wherever (the row itself too). -/
theorem wpList_append_st {w0 w : World} {ops : Array Oper} {rest : List Oper} {o : Oper} {a : Act} {Q : Exit → Act → World → Prop}
    (hg : o.guard = none) (s x : Operand) (hop : o.op = Op.call { callee := Callee.builtin Builtin.append, args := #[s, x], argTypes := #[22, 22] })
    {g fb : Nat} {zs : List Int} {sb : Bool} (st : St w0 w g fb zs sb) (m N : Nat) (hN : zs.length = N) (hs : a.eval s = .slice (some ⟨g, 0, none⟩) m N)
    (b' o' : Nat) (k c : Nat) (news : List Int) (hx : a.eval x = .slice (some ⟨b', o', none⟩) k c) (hl : news.length = k)
    (hnews : ∀ i, i < k → w.cell? ⟨b', o' + i, none⟩ = some (.int .u8 (news.getD i 0))) (hfit : m + k ≤ N)
    (hK : ∀ w', St w0 w' g fb (zs.take m ++ (news ++ zs.drop (m + k))) sb → wpList Trym.prog ops Q rest (a.put o.dst (.slice (some ⟨g, 0, none⟩) (m + k) N)) w') :
    wpList Trym.prog ops Q (o :: rest) a w := by
  obtain ⟨i0, hi, hz0, hz1, hz2⟩ := info_parts Trym.info5
  refine wpList_plain hg fun K hK' => ?_
  have hrun := run_append_room (P := Trym.prog) w 22 o.type 5 i0 Trym.underlying22 hi g m N (row zs) st.cells ⟨b', o', none⟩ k c (news.map (Value.int .u8)) (by simp [hz1, hl])
    (fun j u hj => by
      have hjl : j < news.length := by simpa using (List.getElem?_eq_some_iff.1 hj).1
      rw [Addr.add_lit, hnews j (by omega)]
      rw [← hj]
      simp [List.getD, hjl])
    (ints_oneCell _ _) hfit (by simp [hz1, row_size, hl, hN]; exact hfit)
  have e : ((row zs).toList.take (m * i0.size) ++ news.map (Value.int .u8) ++ (row zs).toList.drop (m * i0.size + (news.map (Value.int .u8)).length)).toArray = row (zs.take m ++ (news ++ zs.drop (m + k))) := by
    simp [row, hz1, hl, List.map_take, List.map_drop]
  rw [e] at hrun
  unfold Oper.wp
  simp [execOp, hop, resolve, invoke, builtin, hs, hx, hrun, Result.andThen]
  exact hK' _ _ (hK _ (st.setRow _))

theorem one_new (w : World) (v : Int) : ∀ i, i < 1 → (w.alloc (.cells #[.int .u8 v] 5)).cell? ⟨w.heap.size, 0 + i, none⟩ = some (.int .u8 ([v].getD i 0)) := by
  intro i hi
  obtain rfl : i = 0 := by omega
  rw [World.cell?_alloc_at _ _ _ _ rfl]
  rfl

/-- The number of a slice's elements. -/
def lenOf : Value → Nat | .slice _ n _ => n | _ => 0


theorem index_none (b o n c : Nat) (xs : List Int) (w : World) (hx : xs.length = n) (hw : ∀ c ∈ xs, 0 ≤ c ∧ c ≤ 255) (h13 : ∀ c ∈ xs, c ≠ 13)
    (hc : ∀ i, i < n → w.cell? ⟨b, o + i, none⟩ = some (.int .u8 (xs.getD i 0))) :
    Calls Trym.prog 26 #[.slice (some ⟨b, o, none⟩) n c, .int .u8 13] w fun e w' => e = .returned (.int .i64 (-1)) ∧ w' = w :=
  (index_at b o n c xs 13 w hx hc).mono fun e w' h => by rw [index_no 13 xs (by omega) hw h13] at h; exact h

theorem index_found (b o n c : Nat) (pre post : List Int) (w : World) (hx : (pre ++ 13 :: post).length = n) (hw : ∀ c ∈ pre, 0 ≤ c ∧ c ≤ 255) (h13 : ∀ c ∈ pre, c ≠ 13)
    (hc : ∀ i, i < n → w.cell? ⟨b, o + i, none⟩ = some (.int .u8 ((pre ++ 13 :: post).getD i 0))) :
    Calls Trym.prog 26 #[.slice (some ⟨b, o, none⟩) n c, .int .u8 13] w fun e w' => e = .returned (.int .i64 pre.length) ∧ w' = w :=
  (index_at b o n c _ 13 w hx hc).mono fun e w' h => by rw [index_yes 13 pre post (by omega) hw h13] at h; exact h

set_option maxHeartbeats 1000000 in
theorem fold_at (w : World) (g fb : Nat) (zs : List Int) (s0 : Bool) (hb : zs.length ≤ 1048576) (hw : ∀ c ∈ zs, 0 ≤ c ∧ c ≤ 255) (st0 : St w w g fb zs s0) :
    Calls Trym.prog 23 #[.pointer (some ⟨fb, 0, none⟩), .slice (some ⟨g, 0, none⟩) zs.length zs.length] w fun e w' =>
      e = .returned (.slice (some ⟨g, 0, none⟩) (foldS s0 zs).1.length zs.length) ∧ ∃ zs', zs'.length = zs.length ∧ zs'.take (foldS s0 zs).1.length = (foldS s0 zs).1 ∧ St w w' g fb zs' (foldS s0 zs).2 := by
  obtain ⟨R, hR⟩ : ∃ R, R = foldS s0 zs := ⟨_, rfl⟩
  rw [← hR]
  have HR : Hid (R = foldS s0 zs) := hR
  clear hR
  go_enter Trym.func23, Trym.ntmps23
  go_wp2
  go_loopw [1, 5] (fun p f wr => ∃ (m off n o : Nat) (zs' : List Int) (s : Bool), p = .slice (some ⟨g, o, none⟩) n n ∧ f = .slice (some ⟨g, 0, none⟩) m zs.length ∧ (0 < n → o = off) ∧ m ≤ off ∧
      Hid (off + n = zs.length) ∧ Hid (zs'.length = zs.length) ∧ Hid (zs'.drop off = zs.drop off) ∧ Hid (R = (zs'.take m ++ (foldS s (zs.drop off)).1, (foldS s (zs.drop off)).2)) ∧ St w wr g fb zs' s)
    (fun p _ _ => lenOf p)
  case atStart => exact ⟨0, 0, zs.length, 0, zs, s0, rfl, rfl, fun _ => rfl, Nat.le_refl _, Nat.zero_add _, rfl, rfl, by simp only [List.take_zero, List.nil_append, List.drop_zero]; exact HR.out, st0⟩
  case round =>
    obtain ⟨m, off, n, o, zs', s, rfl, rfl, ho, hmo, hn, hl, hd, hr, st⟩ := hrel
    by_cases hn0 : n = 0
    · subst hn0
      have P := round_done zs zs' m off s R hl.out hmo hn.out hr.out
      have HP : Hid (R.1.length = m ∧ zs'.take m = R.1 ∧ R.2 = s) := P
      clear P
      go_wp2
      go_ret
      obtain ⟨p1, p2, p3⟩ := HP.out
      rw [p1, p3]
      exact ⟨rfl, zs', hl.out, p2, st⟩
    · obtain rfl := ho (by omega)
      have hcF := st.cellF
      have hfF := st.frozF
      have hN := hn.out
      obtain ⟨c, hc⟩ : ∃ c, c = zs'.getD o 0 := ⟨_, rfl⟩
      have hcG : wr.cell? ⟨g, o, none⟩ = some (.int .u8 c) := by rw [hc]; exact st.cellG o (by rw [hl.out]; omega)
      have hdr : zs.drop o = c :: zs.drop (o + 1) := by
        have h1 : o < zs'.length := by rw [hl.out]; omega
        have h2 : zs'.drop o = c :: zs'.drop (o + 1) := by rw [hc, List.drop_eq_getElem_cons h1]; simp [h1]
        have h3 : zs'.drop (o + 1) = zs.drop (o + 1) := by rw [← List.drop_drop, hd.out, List.drop_drop]
        rw [← hd.out, h2, h3]
      -- where the round goes on: behind the LF that is dropped, or where it stood
      obtain ⟨o1, off1, k1, hsel, G⟩ : ∃ o1 off1 k1 : Nat, ((s = true ∧ c = 10 ∧ n = k1 + 1 ∧ (if k1 = 0 then some (⟨g, o, none⟩ : Addr) else some ⟨g, o + 1, none⟩) = some ⟨g, o1, none⟩) ∨ (¬ (s = true ∧ c = 10) ∧ k1 = n ∧ o1 = o)) ∧
          Hid (m ≤ off1 ∧ off1 + k1 = zs.length ∧ (0 < k1 → o1 = off1) ∧ k1 ≤ n ∧ zs'.drop off1 = zs.drop off1 ∧ R = (zs'.take m ++ (foldS false (zs.drop off1)).1, (foldS false (zs.drop off1)).2)) := by
        have hr' := hr.out
        by_cases hs : s = true ∧ c = 10
        · obtain ⟨n1, rfl⟩ : ∃ n1, n = n1 + 1 := ⟨n - 1, by omega⟩
          obtain ⟨rfl, rfl⟩ := hs
          rw [hdr, foldS_skip] at hr'
          have h3 : zs'.drop (o + 1) = zs.drop (o + 1) := by rw [← List.drop_drop, hd.out, List.drop_drop]
          by_cases h0 : n1 = 0
          · exact ⟨o, o + 1, n1, .inl ⟨rfl, rfl, rfl, by rw [if_pos h0]⟩, by omega, by omega, by omega, by omega, h3, hr'⟩
          · exact ⟨o + 1, o + 1, n1, .inl ⟨rfl, rfl, rfl, by rw [if_neg h0]⟩, by omega, by omega, by omega, by omega, h3, hr'⟩
        · refine ⟨o, o, n, .inr ⟨hs, rfl, rfl⟩, hmo, hN, fun _ => rfl, Nat.le_refl _, hd.out, ?_⟩
          rw [hdr] at hr' ⊢
          rw [← foldS_any c _ s hs]
          exact hr'
      clear hc hN hdr hr hd hn
      have st1 := st.store false
      have hk1n : k1 ≤ n := G.out.2.2.2.1
      have hnpos : 0 < n := by omega
      clear hn0 ho
      have hcells : ∀ (i : Nat), i < k1 → (wr.setCell ⟨fb, 0, none⟩ (.bool false)).cell? ⟨g, o1 + i, none⟩ = some (.int .u8 ((zs.drop off1).getD i 0)) := by
        intro i hi
        obtain ⟨_, g2, g3, _, g5, _⟩ := G.out
        obtain rfl := g3 (by omega)
        rw [st1.cellG (o1 + i) (by rw [hl.out]; omega), ← g5]
        simp [List.getD]
      have HCS : Hid (∀ (i : Nat), i < k1 → (wr.setCell ⟨fb, 0, none⟩ (.bool false)).cell? ⟨g, o1 + i, none⟩ = some (.int .u8 ((zs.drop off1).getD i 0))) := hcells
      clear hcells
      have HX : Hid ((zs.drop off1).length = k1) := by
        obtain ⟨_, g2, _⟩ := G.out
        show _ = _
        simp
        omega
      have HW : Hid (∀ c ∈ zs.drop off1, 0 ≤ c ∧ c ≤ 255) := fun c hc => hw c (List.mem_of_mem_drop hc)
      have HM : m + k1 ≤ zs.length := by have := G.out.1; have := G.out.2.1; omega
      clear hw st0
      rcases first_of 13 (zs.drop off1) with h13 | ⟨pre, post, hxs, hpre⟩
      · -- no CR
        have P := round_none zs zs' m off1 k1 R hl.out G.out.1 G.out.2.1 h13 G.out.2.2.2.2.2
        have HP : Hid (R.1.length = m + k1 ∧ (zs'.take m ++ (zs.drop off1 ++ zs'.drop (m + k1))).length = zs.length ∧ (zs'.take m ++ (zs.drop off1 ++ zs'.drop (m + k1))).take (m + k1) = R.1 ∧ R.2 = false) := P
        have H13 : Hid (∀ c ∈ zs.drop off1, c ≠ 13) := h13
        clear P h13
        rcases hsel with ⟨rfl, rfl, rfl, hsl⟩ | ⟨hs, rfl, rfl⟩
        · go_wp2_with fail
          refine (index_none g o1 k1 k1 (zs.drop off1) _ HX.out HW.out H13.out HCS.out).mono ?_
          rintro e w' ⟨rfl, rfl⟩
          go_wp2_with (at_builtin; refine wpList_append_st rfl (.tmp 31) (.tmp 32) rfl st1 m zs.length hl.out rfl g o1 k1 k1 (zs.drop off1) rfl HX.out HCS.out HM ?_; intro w2 st2)
          go_ret
          obtain ⟨p1, p2, p3, p4⟩ := HP.out
          rw [p1, p4]
          exact ⟨rfl, _, p2, p3, st2⟩
        · have hsc : s = false ∨ (s = true ∧ c ≠ 10) := by cases s <;> simp_all
          rcases hsc with rfl | ⟨rfl, hc10⟩
          · clear hs
            go_wp2_with fail
            refine (index_none g o1 k1 k1 (zs.drop off1) _ HX.out HW.out H13.out HCS.out).mono ?_
            rintro e w' ⟨rfl, rfl⟩
            go_wp2_with (at_builtin; refine wpList_append_st rfl (.tmp 31) (.tmp 32) rfl st1 m zs.length hl.out rfl g o1 k1 k1 (zs.drop off1) rfl HX.out HCS.out HM ?_; intro w2 st2)
            go_ret
            obtain ⟨p1, p2, p3, p4⟩ := HP.out
            rw [p1, p4]
            exact ⟨rfl, _, p2, p3, st2⟩
          · have hcb : (c == 10) = false := by simpa using hc10
            clear hs hc10
            go_wp2_with fail
            refine (index_none g o1 k1 k1 (zs.drop off1) _ HX.out HW.out H13.out HCS.out).mono ?_
            rintro e w' ⟨rfl, rfl⟩
            go_wp2_with (at_builtin; refine wpList_append_st rfl (.tmp 31) (.tmp 32) rfl st1 m zs.length hl.out rfl g o1 k1 k1 (zs.drop off1) rfl HX.out HCS.out HM ?_; intro w2 st2)
            go_ret
            obtain ⟨p1, p2, p3, p4⟩ := HP.out
            rw [p1, p4]
            exact ⟨rfl, _, p2, p3, st2⟩
      · -- a CR
        obtain ⟨z2, hz2⟩ : ∃ z2, z2 = zs'.take m ++ (pre ++ zs'.drop (m + pre.length)) := ⟨_, rfl⟩
        obtain ⟨z3, hz3⟩ : ∃ z3, z3 = z2.take (m + pre.length) ++ ([10] ++ z2.drop (m + pre.length + 1)) := ⟨_, rfl⟩
        have P := round_found zs zs' z2 z3 pre post m off1 k1 R hl.out G.out.1 G.out.2.1 G.out.2.2.2.2.1 hxs hpre G.out.2.2.2.2.2 hz2 hz3
        have HP : Hid (z2.length = zs.length ∧ z3.length = zs.length ∧ z3.drop (off1 + (pre.length + 1)) = zs.drop (off1 + (pre.length + 1)) ∧ zs.drop (off1 + (pre.length + 1)) = post ∧
            R = (z3.take (m + pre.length + 1) ++ (foldS true (zs.drop (off1 + (pre.length + 1)))).1, (foldS true (zs.drop (off1 + (pre.length + 1)))).2)) := P
        have HZ2 : Hid (zs'.take m ++ (pre ++ zs'.drop (m + pre.length)) = z2) := hz2.symm
        have HZ3 : Hid (z2.take (m + pre.length) ++ ([10] ++ z2.drop (m + pre.length + 1)) = z3) := hz3.symm
        have HPRE : Hid (∀ c ∈ pre, c ≠ 13) := hpre
        have hxs' := hxs
        have hcs := HCS.out
        have hx := HX.out
        have hww := HW.out
        rw [hxs'] at hcs hx hww
        have hlt : pre.length < k1 := by simp at hx; omega
        have HCS2 : Hid (∀ (i : Nat), i < k1 → (wr.setCell ⟨fb, 0, none⟩ (.bool false)).cell? ⟨g, o1 + i, none⟩ = some (.int .u8 ((pre ++ 13 :: post).getD i 0))) := hcs
        have HCS3 : Hid (∀ (i : Nat), i < pre.length → (wr.setCell ⟨fb, 0, none⟩ (.bool false)).cell? ⟨g, o1 + i, none⟩ = some (.int .u8 (pre.getD i 0))) := by
          intro i hi
          rw [hcs i (by omega)]
          simp [List.getD, List.getElem?_append_left hi]
        have HX2 : Hid ((pre ++ 13 :: post).length = k1) := hx
        have HW2 : Hid (∀ c ∈ pre, 0 ≤ c ∧ c ≤ 255) := fun c hc => hww c (by simp [hc])
        clear P hz2 hz3 hpre hxs hxs' hcs hx hww
        have hkne : ¬ k1 = 0 := by omega
        have hfit1 : m + pre.length ≤ zs.length := by omega
        have hfit2 : m + pre.length + 1 ≤ zs.length := by omega
        obtain ⟨o2, hsl2⟩ : ∃ o2, (if k1 = pre.length + 1 then some (⟨g, o1, none⟩ : Addr) else some ⟨g, o1 + (pre.length + 1), none⟩) = some ⟨g, o2, none⟩ := by
          by_cases h0 : k1 = pre.length + 1
          · exact ⟨o1, by rw [if_pos h0]⟩
          · exact ⟨o1 + (pre.length + 1), by rw [if_neg h0]⟩
        have HO2 : Hid (0 < k1 - (pre.length + 1) → o2 = off1 + (pre.length + 1)) := by
          intro h0
          rw [if_neg (by omega)] at hsl2
          have h1 : o1 + (pre.length + 1) = o2 := by simpa using hsl2
          have h2 := G.out.2.2.1 (by omega)
          omega
        rcases hsel with ⟨rfl, rfl, rfl, hsl⟩ | ⟨hs, rfl, rfl⟩
        · rw [if_neg hkne] at hsl
          obtain rfl : o + 1 = o1 := by simpa using hsl
          clear hsl
          go_wp2_with fail
          refine (index_found g (o + 1) k1 k1 pre post _ HX2.out HW2.out HPRE.out HCS2.out).mono ?_
          rintro e w' ⟨rfl, rfl⟩
          go_wp2_with (first | (at_builtin; refine wpList_append_st rfl (.tmp 34) (.tmp 37) rfl st1 m zs.length hl.out rfl g (o + 1) pre.length k1 pre rfl rfl HCS3.out hfit1 ?_; rw [HZ2.out]; intro w2 st2) | (at_builtin; refine wpList_append_st rfl (.tmp 39) (.tmp 40) rfl (st2.alloc _) (m + pre.length) zs.length HP.out.1 rfl w2.heap.size 0 1 1 [10] rfl rfl (one_new w2 10) hfit2 ?_; rw [HZ3.out]; intro w3 st3; have hcF3 := st3.cellF; have hfF3 := st3.frozF))
          go_roundw
          case rel => exact ⟨m + pre.length + 1, off1 + (pre.length + 1), k1 - (pre.length + 1), o2, z3, true, rfl, rfl, HO2.out, by have := G.out.1; omega, (by show _ = _; have := G.out.2.1; omega), HP.out.2.1, HP.out.2.2.1, HP.out.2.2.2.2, st3.store true⟩
          case measure => simp [lenOf]; omega
        · have hsc : s = false ∨ (s = true ∧ c ≠ 10) := by cases s <;> simp_all
          rcases hsc with rfl | ⟨rfl, hc10⟩
          · clear hs
            go_wp2_with fail
            refine (index_found g o1 k1 k1 pre post _ HX2.out HW2.out HPRE.out HCS2.out).mono ?_
            rintro e w' ⟨rfl, rfl⟩
            go_wp2_with (first | (at_builtin; refine wpList_append_st rfl (.tmp 34) (.tmp 37) rfl st1 m zs.length hl.out rfl g o1 pre.length k1 pre rfl rfl HCS3.out hfit1 ?_; rw [HZ2.out]; intro w2 st2) | (at_builtin; refine wpList_append_st rfl (.tmp 39) (.tmp 40) rfl (st2.alloc _) (m + pre.length) zs.length HP.out.1 rfl w2.heap.size 0 1 1 [10] rfl rfl (one_new w2 10) hfit2 ?_; rw [HZ3.out]; intro w3 st3; have hcF3 := st3.cellF; have hfF3 := st3.frozF))
            go_roundw
            case rel => exact ⟨m + pre.length + 1, off1 + (pre.length + 1), k1 - (pre.length + 1), o2, z3, true, rfl, rfl, HO2.out, by have := G.out.1; omega, (by show _ = _; have := G.out.2.1; omega), HP.out.2.1, HP.out.2.2.1, HP.out.2.2.2.2, st3.store true⟩
            case measure => simp [lenOf]; omega
          · have hcb : (c == 10) = false := by simpa using hc10
            clear hs hc10
            go_wp2_with fail
            refine (index_found g o1 k1 k1 pre post _ HX2.out HW2.out HPRE.out HCS2.out).mono ?_
            rintro e w' ⟨rfl, rfl⟩
            go_wp2_with (first | (at_builtin; refine wpList_append_st rfl (.tmp 34) (.tmp 37) rfl st1 m zs.length hl.out rfl g o1 pre.length k1 pre rfl rfl HCS3.out hfit1 ?_; rw [HZ2.out]; intro w2 st2) | (at_builtin; refine wpList_append_st rfl (.tmp 39) (.tmp 40) rfl (st2.alloc _) (m + pre.length) zs.length HP.out.1 rfl w2.heap.size 0 1 1 [10] rfl rfl (one_new w2 10) hfit2 ?_; rw [HZ3.out]; intro w3 st3; have hcF3 := st3.cellF; have hfF3 := st3.frozF))
            go_roundw
            case rel => exact ⟨m + pre.length + 1, off1 + (pre.length + 1), k1 - (pre.length + 1), o2, z3, true, rfl, rfl, HO2.out, by have := G.out.1; omega, (by show _ = _; have := G.out.2.1; omega), HP.out.2.1, HP.out.2.2.1, HP.out.2.2.2.2, st3.store true⟩
            case measure => simp [lenOf]; omega

end Go.Proofs.Qxb6600919aMods
