/-
  THE WALK OF FnFoldMatchesPairModel.
-/
import Derived.Test.Qxb6600919aModsPairs
namespace Go.Proofs.Qxb6600919aMods
open Go.RowKit Plain

theorem pairs_any (w : World) (b : Nat) (z : List Int) (s : Bool) (hb : z.length ≤ 1048576) (hg : w.heap[b]? = some (.cells (row z) 5 (0, 0))) :
    Calls Trym.prog 13 #[.bool s, .slice (some ⟨b, 0, none⟩) z.length z.length] w fun e w' =>
      e = .returned (.tuple #[.slice (some ⟨w.heap.size, 0, none⟩) (foldS s z).1.length z.length, .bool (foldS s z).2]) ∧
      ∃ zs', zs'.length = z.length ∧ zs'.take (foldS s z).1.length = (foldS s z).1 ∧ w'.heap[w.heap.size]? = some (.cells (row zs') 5 (0, 0)) ∧ Below w.heap.size w w' := by
  by_cases hN : 0 < z.length
  · exact pairs_at w b z s hN hb hg
  · obtain rfl := List.eq_nil_of_length_eq_zero (by omega : z.length = 0)
    refine (pairs_zero w (some ⟨b, 0, none⟩) 0 s).mono ?_
    rintro e w' ⟨rfl, rfl⟩
    exact ⟨rfl, [], rfl, rfl, Go.heap_alloc_new w _, Below.alloc (Below.refl _ _) (Nat.le_refl _) _⟩

theorem match_big (s : Bool) (a : Option Addr) (len cap : Nat) (w : World) (h : 1048576 < len) :
    Calls Trym.prog 3 #[.bool s, .slice a len cap] w fun e w' => e = .returned (.bool true) ∧ Below w.heap.size w w' := by
  go_enter Trym.func3, Trym.ntmps3
  go_wp2_with (go_at_call 11; refine (zb11_big s a len cap _ h).mono ?_; rintro e w' ⟨rfl, rfl⟩)
  go_ret
  exact ⟨rfl, Below.refl _ _⟩

theorem match_nil (s : Bool) (w : World) :
    Calls Trym.prog 3 #[.bool s, .slice none 0 0] w fun e w' => e = .returned (.bool true) ∧ Below w.heap.size w w' := by
  have hss : (s == s) = true := by simp
  go_enter Trym.func3, Trym.ntmps3
  go_wp2_with (go_at_call 11; refine (zb11_small s none 0 0 _ (by omega)).mono ?_; rintro e w' ⟨rfl, rfl⟩)
  refine (clone_nil _).mono ?_
  rintro e w' ⟨rfl, rfl⟩
  go_wp2_with fail
  refine (pairs_zero _ none 0 s).mono ?_
  rintro e w' ⟨rfl, rfl⟩
  go_wp2_with fail
  refine (clone_nil _).mono ?_
  rintro e w' ⟨rfl, rfl⟩
  go_wp2_with fail
  refine (zz_nil _ s).mono ?_
  rintro e w' ⟨rfl, n1, rfl⟩
  go_wp2_with fail
  refine (equal_same none (some ⟨w.heap.size, 0, none⟩) 0 0 [] _ (by simp) (.inl rfl) (.inl rfl)).mono ?_
  rintro e w' ⟨rfl, n3, rfl⟩
  go_wp2
  go_ret
  exact ⟨rfl, bel_drewN' (Below.alloc (Below.alloc (Below.refl _ _) (Nat.le_refl _) _) (by simp) _) _⟩

set_option maxHeartbeats 1000000 in
theorem match_some (s : Bool) (x : Addr) (len cap : Nat) (z : List Int) (w : World) (hz : z.length = len) (hb : len ≤ 1048576) (hw : ∀ c ∈ z, 0 ≤ c ∧ c ≤ 255)
    (hc : ∀ i, i < len → w.cell? (x.add i) = some (.int .u8 (z.getD i 0))) :
    Calls Trym.prog 3 #[.bool s, .slice (some x) len cap] w fun e w' => e = .returned (.bool true) ∧ Below w.heap.size w w' := by
  have k1 := clone_any x len cap z w hz hb hc
  have hg1 : (w.alloc (.cells (row z) 5)).heap[w.heap.size]? = some (.cells (row z) 5 (0, 0)) := Go.heap_alloc_new w _
  subst hz
  have k2 := pairs_any (w.alloc (.cells (row z) 5)) w.heap.size z s hb hg1
  obtain ⟨R, hR⟩ : ∃ R, R = foldS s z := ⟨_, rfl⟩
  have hlen := (foldS_len z s).1
  rw [← hR] at k2 hlen
  have HR := hide' hR
  have K1 := hide' k1
  have K2 := hide' k2
  have HW := hide' hw
  have HG1 := hide' hg1
  have hbb : (R.2 == R.2) = true := by simp
  clear hR k1 k2 hw hg1 hc
  go_enter Trym.func3, Trym.ntmps3
  go_wp2_with (go_at_call 11; refine (zb11_small s _ _ _ _ hb).mono ?_; rintro e w' ⟨rfl, rfl⟩)
  refine K1.out.mono ?_
  rintro e w' ⟨rfl, rfl⟩
  go_wp2_with fail
  refine K2.out.mono ?_
  rintro e w2 ⟨rfl, zs2, hl2, ht2, hg2, hb2⟩
  simp only [World.size_alloc] at hg2 hb2
  have HL2 := hide' hl2
  have HT2 := hide' ht2
  have HG2 := hide' hg2
  have HB2 := hide' hb2
  have HO : Hid (w2.heap[w.heap.size]? = some (.cells (row z) 5 (0, 0))) := (hb2.block w.heap.size (by omega)).trans HG1.out
  have hs2 : w.heap.size + 1 < w2.heap.size := (Array.getElem?_eq_some_iff.1 hg2).1
  clear hl2 ht2 hg2 hb2 K1 K2
  go_wp2_with fail
  refine (clone_row w.heap.size z.length z.length z z w2 HO.out hb (by simp) (Nat.le_refl _)).mono ?_
  rintro e w3 ⟨rfl, rfl⟩
  go_wp2_with fail
  have k4 := zz_at (w2.alloc (.cells (row z) 5)) w2.heap.size z s hb HW.out (Go.heap_alloc_new w2 _)
  rw [← HR.out] at k4
  refine k4.mono ?_
  clear k4
  rintro e w4 ⟨rfl, zs4, hl4, ht4, hg4, hgr4⟩
  have HL4 := hide' hl4
  have HT4 := hide' ht4
  have HG4 := hide' hg4
  have HGR4 := hide' hgr4
  clear hl4 ht4 hg4 hgr4
  go_wp2_with fail
  have hold : w4.heap[w.heap.size + 1]? = some (.cells (row zs2) 5 (0, 0)) := by
    rw [HGR4.out.block (w.heap.size + 1) (by simp; omega) (by simp; omega), Below.heap_alloc _ _ _ (by omega)]
    exact HG2.out
  refine (equal_same (some ⟨w2.heap.size, 0, none⟩) (some ⟨w.heap.size + 1, 0, none⟩) z.length z.length R.1 w4 (by omega) (rd_row _ R.1.length zs4 R.1 w4 HG4.out HT4.out (by rw [HL4.out]; omega)) (rd_row _ R.1.length zs2 R.1 w4 hold HT2.out (by rw [HL2.out]; omega))).mono ?_
  rintro e w6 ⟨rfl, n, rfl⟩
  go_wp2
  go_ret
  refine ⟨rfl, bel_drewN' ?_ n⟩
  have b1 : Below w.heap.size w w2 := Below.trans (Below.alloc (Below.refl _ _) (Nat.le_refl _) _) (HB2.out.mono (by omega))
  exact Below.grown (Below.alloc b1 (by omega) _) HGR4.out (by simp; omega) (fun k hk => by simp at hk; omega)

end Go.Proofs.Qxb6600919aMods
