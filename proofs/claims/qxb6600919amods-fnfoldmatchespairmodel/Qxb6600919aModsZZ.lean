/-
  THE WALKS OF ZZFold AND OF foldByPairs.
-/
import Derived.Test.Qxb6600919aModsFold
namespace Go.Proofs.Qxb6600919aMods
open Go.RowKit Plain

/-- The fold AT nil. -/
theorem fold_nil (w : World) (fb : Nat) : Calls Trym.prog 23 #[.pointer (some ⟨fb, 0, none⟩), .slice none 0 0] w fun e w' => e = .returned (.slice none 0 0) ∧ w' = w := by
  go_enter Trym.func23, Trym.ntmps23
  go_wp2
  refine wp_loop_rounds 1 ?_
  rw [rounds_succ]
  go_wp2
  go_ret
  exact ⟨rfl, rfl⟩

theorem zz_nil (w : World) (s : Bool) : Calls Trym.prog 14 #[.bool s, .slice none 0 0] w fun e w' => e = .returned (.tuple #[.slice none 0 0, .bool s]) ∧ ∃ n, w' = (w.alloc (.cells #[.bool s] 40)).drewN n := by
  go_enter Trym.func14, Trym.ntmps14
  go_wp2_with fail
  refine (fold_nil _ _).mono ?_
  rintro e w' ⟨rfl, rfl⟩
  go_wp2_with fail
  go_quiet (fail)
  go_wp2
  go_ret2
  exact ⟨rfl, _, rfl⟩

theorem zz_at (w : World) (g : Nat) (zs : List Int) (s0 : Bool) (hb : zs.length ≤ 1048576) (hw : ∀ c ∈ zs, 0 ≤ c ∧ c ≤ 255) (hg : w.heap[g]? = some (.cells (row zs) 5 (0, 0))) :
    Calls Trym.prog 14 #[.bool s0, .slice (some ⟨g, 0, none⟩) zs.length zs.length] w fun e w' =>
      e = .returned (.tuple #[.slice (some ⟨g, 0, none⟩) (foldS s0 zs).1.length zs.length, .bool (foldS s0 zs).2]) ∧
      ∃ zs', zs'.length = zs.length ∧ zs'.take (foldS s0 zs).1.length = (foldS s0 zs).1 ∧ w'.heap[g]? = some (.cells (row zs') 5 (0, 0)) ∧ w.grownBy w' (some g) := by
  have hlt : g < w.heap.size := (Array.getElem?_eq_some_iff.1 hg).1
  have st : St (w.alloc (.cells #[.bool s0] 40)) (w.alloc (.cells #[.bool s0] 40)) g w.heap.size zs s0 := by
    refine St.refl (by omega) ?_ (Go.heap_alloc_new w _)
    rw [Below.heap_alloc _ _ _ hlt]
    exact hg
  have hf := fold_at _ g w.heap.size zs s0 hb hw st
  obtain ⟨R, hR⟩ : ∃ R, R = foldS s0 zs := ⟨_, rfl⟩
  rw [← hR] at hf ⊢
  have HF := hf
  have H : Hid (Calls Trym.prog 23 #[.pointer (some ⟨w.heap.size, 0, none⟩), .slice (some ⟨g, 0, none⟩) zs.length zs.length] (w.alloc (.cells #[.bool s0] 40)) fun e w' =>
      e = .returned (.slice (some ⟨g, 0, none⟩) R.1.length zs.length) ∧ ∃ zs', zs'.length = zs.length ∧ zs'.take R.1.length = R.1 ∧ St (w.alloc (.cells #[.bool s0] 40)) w' g w.heap.size zs' R.2) := hf
  clear hf HF hR st hw
  go_enter Trym.func14, Trym.ntmps14
  go_wp2_with fail
  refine H.out.mono ?_
  rintro e w1 ⟨rfl, zs', hl, ht, st⟩
  have HL : Hid (zs'.length = zs.length) := hl
  have HT : Hid (zs'.take R.1.length = R.1) := ht
  have hcF := st.cellF
  clear hl ht H
  go_wp2_with fail
  go_quiet (fail)
  go_wp2
  go_ret2
  refine ⟨rfl, zs', HL.out, HT.out, st.cells, ⟨st.os, st.tape, st.output, ?_, ?_⟩⟩
  · have := st.size; simp at this; simp; omega
  · intro k hk hne
    have := st.block k (by simp; omega) (fun e => hne (by rw [e])) (by omega)
    rw [Below.heap_alloc _ _ _ hk] at this
    exact this

/-- cloneBytes AT whatever slice that is not nil. -/
theorem clone_any (x : Addr) (len cap : Nat) (z : List Int) (w : World) (hz : z.length = len) (hb : len ≤ 1048576) (hc : ∀ i, i < len → w.cell? (x.add i) = some (.int .u8 (z.getD i 0))) :
    Calls Trym.prog 12 #[.slice (some x) len cap] w fun e w' => e = .returned (.slice (some ⟨w.heap.size, 0, none⟩) len len) ∧ w' = w.alloc (.cells (row z) 5) := by
  subst hz
  by_cases h0 : z.length = 0
  · obtain rfl := List.eq_nil_of_length_eq_zero h0
    exact clone_zero x cap w
  · obtain ⟨b, off, spot⟩ := x
    have hc0 := hc 0 (by omega)
    have hspot : spot = none := by simpa [Addr.add] using World.cell?_spot hc0
    subst hspot
    refine clone_at b off cap z w hb (fun i hi => by rw [← Addr.add_lit]; exact hc i hi) ?_
    have := block_lt_of_cell hc0
    rwa [Addr.add_lit] at this

/-- A row of the call's own, cloned. -/
theorem clone_row (g len cap : Nat) (zs z : List Int) (w : World) (hg : w.heap[g]? = some (.cells (row zs) 5 (0, 0))) (hb : len ≤ 1048576) (hz : zs.take len = z) (hl : len ≤ zs.length) :
    Calls Trym.prog 12 #[.slice (some ⟨g, 0, none⟩) len cap] w fun e w' => e = .returned (.slice (some ⟨w.heap.size, 0, none⟩) len len) ∧ w' = w.alloc (.cells (row z) 5) := by
  refine clone_any ⟨g, 0, none⟩ len cap z w (by rw [← hz]; simp; omega) hb fun i hi => ?_
  rw [Addr.add_lit, Nat.zero_add, cell_of_row w g i _ _ _ hg, row_get zs i (by omega), ← hz]
  simp [List.getD, hi]

theorem rd_row (g len : Nat) (zs z : List Int) (w : World) (hg : w.heap[g]? = some (.cells (row zs) 5 (0, 0))) (hz : zs.take len = z) (hl : z.length ≤ zs.length) : Rd w (some ⟨g, 0, none⟩) z := by
  refine .inr ⟨g, 0, rfl, fun i hi => ?_⟩
  rw [Nat.zero_add, cell_of_row w g i _ _ _ hg, row_get zs i (by omega), ← hz]
  have : i < len := by have := congrArg List.length hz; simp at this; omega
  simp [List.getD, this]

/-- The bound that the program laid: within it. -/
theorem zb17_small (s : Bool) (a : Option Addr) (len cap : Nat) (w : World) (h : len ≤ 1048576) : Calls Trym.prog 17 #[.bool s, .slice a len cap] w fun e w' => e = .returned (.bool true) ∧ w = w' := by
  go_enter Trym.func17, Trym.ntmps17
  go_wp2
  go_ret
  exact ⟨rfl, rfl⟩

theorem zb17_big (s : Bool) (a : Option Addr) (len cap : Nat) (w : World) (h : 1048576 < len) : Calls Trym.prog 17 #[.bool s, .slice a len cap] w fun e w' => e = .returned (.bool false) ∧ w = w' := by
  go_enter Trym.func17, Trym.ntmps17
  go_wp2
  go_ret
  exact ⟨rfl, rfl⟩

theorem zb11_small (s : Bool) (a : Option Addr) (len cap : Nat) (w : World) (h : len ≤ 1048576) : Calls Trym.prog 11 #[.bool s, .slice a len cap] w fun e w' => e = .returned (.bool true) ∧ w = w' := by
  go_enter Trym.func11, Trym.ntmps11
  go_wp2
  go_ret
  exact ⟨rfl, rfl⟩

theorem zb11_big (s : Bool) (a : Option Addr) (len cap : Nat) (w : World) (h : 1048576 < len) : Calls Trym.prog 11 #[.bool s, .slice a len cap] w fun e w' => e = .returned (.bool false) ∧ w = w' := by
  go_enter Trym.func11, Trym.ntmps11
  go_wp2
  go_ret
  exact ⟨rfl, rfl⟩

end Go.Proofs.Qxb6600919aMods
