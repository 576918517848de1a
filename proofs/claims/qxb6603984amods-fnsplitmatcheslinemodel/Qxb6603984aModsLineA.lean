/-
  THE MODEL's HELPERS: appendBytesB1, firstBytesB1; the plain law of the model by whole lines.
-/
import Derived.Test.Qxb6603984aModsTwoA
namespace Go.Proofs.Qxb6603984aMods
open Go.RowKit Plain

/-! ### The plain law -/
def firstL (head seg : List Int) : List Int := head ++ seg.take (5 - head.length)
def payL (pay head seg : List Int) : List Int := if isData (firstL head seg) = true then pay ++ seg.drop (5 - head.length) else pay

theorem take_model (S0 : Sc) (hl : Nat) (head pay seg : List Int) (hh : head.length ≤ 5) : takeL ⟨hl, head, feedL S0 pay⟩ seg = ⟨hl + seg.length, firstL head seg, feedL S0 (payL pay head seg)⟩ := by
  rw [takeL_eq seg _ hh]
  simp only [firstL, payL, Ev.mk.injEq, true_and]
  by_cases h : isData (head ++ seg.take (5 - head.length)) = true
  · simp [h, feedL_append]
  · simp [h]

theorem last_model (S0 : Sc) (hl : Nat) (head pay seg : List Int) (hh : head.length ≤ 5) (h : ∀ c ∈ seg, c ≠ 10) :
    splitL ⟨hl, head, feedL S0 pay⟩ seg = { ev := ⟨hl + seg.length, firstL head seg, feedL S0 (payL pay head seg)⟩, n := seg.length, ok := false, delim := 0 } := by
  rw [splitL_last _ seg h, take_model S0 hl head pay seg hh]

theorem line_model (S0 : Sc) (hl : Nat) (head pay seg r : List Int) (hh : head.length ≤ 5) (h : ∀ c ∈ seg, c ≠ 10) :
    splitL ⟨hl, head, feedL S0 pay⟩ (seg ++ 10 :: r) = if blankE ⟨hl + seg.length, firstL head seg, feedL S0 (payL pay head seg)⟩ = true then { ev := ⟨0, [], feedL S0 (payL pay head seg)⟩, n := seg.length + 1, ok := true, delim := hl + seg.length + 1 } else (splitL ⟨0, [], feedL S0 (payL pay head seg)⟩ r).more (seg.length + 1) := by
  rw [splitL_line _ seg r h, take_model S0 hl head pay seg hh]
  rfl

/-! ### appendBytesB1 -/
set_option maxHeartbeats 4000000 in
set_option maxRecDepth 100000 in
theorem append_any (a : Option Addr) (c : Nat) (xs : List Int) (b : Option Addr) (d : Nat) (ys : List Int) (w : World) (ho : Own w a c xs) (hp : PRow w b d ys (fun k => blk a = some k)) (hx : xs.length ≤ 1000000) (hy : ys.length ≤ 1000000) :
    Calls Trym.prog 17 #[.slice a xs.length c, .slice b ys.length d] w fun e w' => ∃ a' c', e = .returned (.slice a' (xs ++ ys).length c') ∧ Own w' a' c' (xs ++ ys) ∧ Only w w' (fun k => blk a = some k) ∧ (∀ g, blk a' = some g → blk a = some g ∨ w.heap.size ≤ g) := by
  have HO := hide ho
  have HP := hide hp
  clear ho hp
  go_enter Trym.func17, Trym.ntmps17
  go_wp2
  go_loopw [0, 5] (fun dv iv wr => ∃ (k : Nat) (a' : Option Addr) (c' : Nat), dv = .slice a' (xs ++ ys.take k).length c' ∧ iv = .int .i64 k ∧ k ≤ ys.length ∧ Hid (Own wr a' c' (xs ++ ys.take k)) ∧ Hid (Only w wr (fun g => blk a = some g)) ∧ Hid (∀ g, blk a' = some g → blk a = some g ∨ w.heap.size ≤ g)) (fun _ iv _ => ys.length - (intOf iv).toNat)
  case atStart => exact ⟨0, a, c, by simp, rfl, Nat.zero_le _, hide (by simpa using HO.out), Only.refl _ _, fun g hg => .inl hg⟩
  case round =>
    obtain ⟨k, a', c', rfl, rfl, hk, hown, honly, hat⟩ := hrel
    by_cases hlt : k < ys.length
    · obtain ⟨pb, off, rfl, hpw, hpf, hpc⟩ : ∃ pb off, b = some ⟨pb, off, none⟩ ∧ pb < w.heap.size ∧ ¬ blk a = some pb ∧ ∀ j, j < ys.length → w.cell? ⟨pb, off + j, none⟩ = some (.int .u8 (ys.getD j 0)) := by
        rcases HP.out.2 with hh | hh
        · rw [hh] at hlt; simp at hlt
        · exact hh
      have hcx : wr.cell? ⟨pb, off + k, none⟩ = some (.int .u8 (ys.getD k 0)) := by
        rw [World.cell?_of_block (w := w) (honly.out.block pb hpw hpf)]
        exact hpc k hlt
      have HST : Hid (∀ x, x = ys.getD k 0 → (xs ++ ys.take k) ++ [x] = xs ++ ys.take (k + 1)) := fun x hx' => by rw [take_succ_getD ys k hlt, hx', List.append_assoc]
      generalize hz : ys.getD k 0 = x at hcx
      have HZ := hide (HST.out x hz.symm)
      have hlk : (xs ++ ys.take k).length ≤ 2000000 := by simp; omega
      generalize hzs : xs ++ ys.take k = zs at hown HZ hlk
      clear hpc hz HST hzs
      go_wp2_with (at_builtin; refine wpList_own1 rfl (.tmp 12) (.tmp 17) rfl hown.out (by omega) x rfl rfl ?_; intro g cap w1 h1 h2 h3)
      go_roundw
      case rel =>
        have hw1 : w.heap.size ≤ wr.heap.size := honly.out.size
        refine ⟨k + 1, some ⟨g, 0, none⟩, cap, ?_, by go_num, by omega, hide ?_, hide ?_, hide ?_⟩
        · rw [← HZ.out]; simp
        · rw [← HZ.out]; exact h1
        · refine honly.out.trans (Only.grown h2 (F := fun g => blk a' = some g) (fun _ hk => hk)) (fun q hq hF => ?_)
          rcases hat.out q hF with h | h
          · exact h
          · omega
        · intro g' hg'
          rcases h3 g' hg' with h | h
          · exact hat.out g' h
          · right; omega
      case measure => simp [intOf]; omega
    · obtain rfl : k = ys.length := by omega
      have hkk : xs ++ ys.take ys.length = xs ++ ys := by simp
      rw [hkk] at hown
      go_wp2
      go_ret
      exact ⟨a', c', by rw [hkk]; rfl, hown.out, honly.out, hat.out⟩

end Go.Proofs.Qxb6603984aMods
