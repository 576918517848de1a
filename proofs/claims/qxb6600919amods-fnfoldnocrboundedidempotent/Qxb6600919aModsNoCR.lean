/-
  THE WALK OF FnFoldNoCRBoundedIdempotent.
-/
import Derived.Test.Qxb6600919aModsZZ
namespace Go.Proofs.Qxb6600919aMods
open Go.RowKit Plain

theorem hide {p : Prop} (h : p) : Hid p := h

theorem bel_drewN {B : Nat} {a w : World} (h : Below B a w) (n : Nat) : Below B a (w.drewN n) := ⟨h.os, h.tape, h.output, h.size, h.block⟩

theorem nocr_big (s : Bool) (a : Option Addr) (len cap : Nat) (w : World) (h : 1048576 < len) :
    Calls Trym.prog 5 #[.bool s, .slice a len cap] w fun e w' => e = .returned (.bool true) ∧ Below w.heap.size w w' := by
  go_enter Trym.func5, Trym.ntmps5
  go_wp2_with (go_at_call 17; refine (zb17_big s a len cap _ h).mono ?_; rintro e w' ⟨rfl, rfl⟩)
  go_ret
  exact ⟨rfl, Below.refl _ _⟩

theorem nocr_nil (s : Bool) (w : World) :
    Calls Trym.prog 5 #[.bool s, .slice none 0 0] w fun e w' => e = .returned (.bool true) ∧ Below w.heap.size w w' := by
  go_enter Trym.func5, Trym.ntmps5
  go_wp2_with (go_at_call 17; refine (zb17_small s none 0 0 _ (by omega)).mono ?_; rintro e w' ⟨rfl, rfl⟩)
  refine (clone_nil _).mono ?_
  rintro e w' ⟨rfl, rfl⟩
  go_wp2_with fail
  refine (clone_nil _).mono ?_
  rintro e w' ⟨rfl, rfl⟩
  go_wp2_with fail
  refine (zz_nil _ s).mono ?_
  rintro e w' ⟨rfl, n1, rfl⟩
  go_wp2_with fail
  refine wp_loop_rounds 1 ?_
  rw [rounds_succ]
  go_wp2_with fail
  refine (clone_nil _).mono ?_
  rintro e w' ⟨rfl, rfl⟩
  go_wp2_with fail
  refine (zz_nil _ false).mono ?_
  rintro e w' ⟨rfl, n2, rfl⟩
  go_wp2_with fail
  refine (equal_same none none 0 0 [] _ (by simp) (.inl rfl) (.inl rfl)).mono ?_
  rintro e w' ⟨rfl, n3, rfl⟩
  go_wp2
  go_ret
  refine ⟨rfl, ?_⟩
  exact bel_drewN (Below.alloc (bel_drewN (Below.alloc (Below.refl _ _) (Nat.le_refl _) _) n1) (by simp) _) _

set_option maxHeartbeats 1000000 in
theorem nocr_some (s : Bool) (x : Addr) (len cap : Nat) (z : List Int) (w : World) (hz : z.length = len) (hb : len ≤ 1048576) (hw : ∀ c ∈ z, 0 ≤ c ∧ c ≤ 255)
    (hc : ∀ i, i < len → w.cell? (x.add i) = some (.int .u8 (z.getD i 0))) :
    Calls Trym.prog 5 #[.bool s, .slice (some x) len cap] w fun e w' => e = .returned (.bool true) ∧ Below w.heap.size w w' := by
  have k1 := clone_any x len cap z w hz hb hc
  have hg1 : (w.alloc (.cells (row z) 5)).heap[w.heap.size]? = some (.cells (row z) 5 (0, 0)) := Go.heap_alloc_new w _
  have k2 := clone_row w.heap.size len len z z (w.alloc (.cells (row z) 5)) hg1 hb (by rw [← hz]; simp) (by omega)
  have hg2 : ((w.alloc (.cells (row z) 5)).alloc (.cells (row z) 5)).heap[w.heap.size + 1]? = some (.cells (row z) 5 (0, 0)) := by
    have := Go.heap_alloc_new (w.alloc (.cells (row z) 5)) (.cells (row z) 5)
    simpa using this
  subst hz
  have k3 := zz_at _ (w.heap.size + 1) z s hb hw hg2
  obtain ⟨R, hR⟩ : ∃ R, R = foldS s z := ⟨_, rfl⟩
  have hlen := foldS_len z s
  have hno := foldS_no13 z s
  have hwf := foldS_wf z (fun c => 0 ≤ c ∧ c ≤ 255) (by omega) hw s
  rw [← hR] at k3 hlen hno hwf
  have hcl : foldS false R.1 = (R.1, false) := foldS_clean _ hno
  have hl1 : R.1.length ≤ z.length := hlen.1
  have hl2 : z.length ≤ 2 * R.1.length + 1 := by have := hlen.2; split at this <;> omega
  have K1 := hide k1
  have K2 := hide k2
  have K3 := hide k3
  have HCL := hide hcl
  have HNO := hide hno
  have HWF := hide hwf
  clear hR hlen hc hw hg1 hg2 k1 k2 k3 hcl hno hwf
  have d16 : decide ((1048576 : Int) < (z.length : Int)) = false := decide_eq_false (by omega)
  have d30 : decide (z.length < R.1.length) = false := decide_eq_false (by omega)
  have d38 : decide (2 * (R.1.length : Int) + 1 < (z.length : Int)) = false := decide_eq_false (by omega)
  go_enter Trym.func5, Trym.ntmps5
  go_wp2_with (go_at_call 17; refine (zb17_small s _ _ _ _ hb).mono ?_; rintro e w' ⟨rfl, rfl⟩)
  refine K1.out.mono ?_
  rintro e w' ⟨rfl, rfl⟩
  go_wp2_with fail
  refine K2.out.mono ?_
  rintro e w' ⟨rfl, rfl⟩
  go_wp2_with fail
  refine K3.out.mono ?_
  rintro e w3 ⟨rfl, zs', hl, ht, hg, hgr⟩
  have HL := hide hl
  have HT := hide ht
  have HG := hide hg
  have HGR := hide hgr
  have HWZ : Hid (w.heap.size + 2 ≤ w3.heap.size) := by have := hgr.size; simp at this; exact this
  clear hl ht hg hgr K1 K2 K3
  go_wp2_with fail
  go_loop [7] (fun i => ∃ k : Nat, k ≤ R.1.length ∧ i = .int .i64 k) (fun i => R.1.length - (intOf i).toNat)
  case atStart => exact ⟨0, Nat.zero_le _, rfl⟩
  case round =>
    obtain ⟨k, hk, rfl⟩ := hrel
    by_cases hlt : k < R.1.length
    · have hcell : ∃ c : Int, w3.cell? ⟨w.heap.size + 1, k, none⟩ = some (.int .u8 c) ∧ (c == 13) = false := by
        refine ⟨zs'.getD k 0, ?_, ?_⟩
        · rw [cell_of_row w3 _ k _ _ _ HG.out, row_get zs' k (by rw [HL.out]; omega)]
        · have h1 : zs'.getD k 0 ∈ R.1 := by
            rw [← HT.out]
            have h2 : k < zs'.length := by rw [HL.out]; omega
            simp [List.getD, h2]
            exact List.mem_take_iff_getElem.2 ⟨k, by omega, rfl⟩
          have := HNO.out _ h1
          simpa using this
      obtain ⟨c, hcc, hc13⟩ := hcell
      go_wp2
      go_round
      case rel => exact ⟨k + 1, by omega, by go_num⟩
      case measure => simp [intOf]; omega
    · go_wp2_with fail
      refine (clone_row (w.heap.size + 1) R.1.length z.length zs' R.1 w3 HG.out (by omega) HT.out (by rw [HL.out]; omega)).mono ?_
      rintro e w4 ⟨rfl, rfl⟩
      go_wp2_with fail
      have k5 := zz_at (w3.alloc (.cells (row R.1) 5)) w3.heap.size R.1 false (by omega) HWF.out (Go.heap_alloc_new w3 _)
      rw [HCL.out] at k5
      refine k5.mono ?_
      clear k5
      rintro e w5 ⟨rfl, zs2, hl2, ht2, hg2, hgr2⟩
      have HL2 := hide hl2
      have HT2 := hide ht2
      have HG2 := hide hg2
      have HGR2 := hide hgr2
      clear hl2 ht2 hg2 hgr2
      go_wp2_with fail
      have hold : w5.heap[w.heap.size + 1]? = some (.cells (row zs') 5 (0, 0)) := by
        rw [HGR2.out.block (w.heap.size + 1) (by have := HWZ.out; simp; omega) (by have := HWZ.out; simp; omega), Below.heap_alloc _ _ _ (by have := HWZ.out; omega)]
        exact HG.out
      refine (equal_same (some ⟨w3.heap.size, 0, none⟩) (some ⟨w.heap.size + 1, 0, none⟩) R.1.length z.length R.1 w5 (by omega) (rd_row _ R.1.length zs2 R.1 w5 HG2.out HT2.out (by rw [HL2.out]; omega)) (rd_row _ R.1.length zs' R.1 w5 hold HT.out (by rw [HL.out]; omega))).mono ?_
      rintro e w6 ⟨rfl, n, rfl⟩
      go_wp2
      go_ret
      refine ⟨rfl, bel_drewN ?_ n⟩
      have b1 : Below w.heap.size w w3 := Below.grown (Below.alloc (Below.alloc (Below.refl _ _) (Nat.le_refl _) _) (by simp) _) HGR.out (by simp; omega) (fun k hk => by simp at hk; omega)
      exact Below.grown (Below.alloc b1 (by have := HWZ.out; omega) _) HGR2.out (by have := HWZ.out; simp; omega) (fun k hk => by have := HWZ.out; simp at hk; omega)

end Go.Proofs.Qxb6600919aMods
