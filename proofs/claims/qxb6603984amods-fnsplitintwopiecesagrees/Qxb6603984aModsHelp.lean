/-
  THE WALKS OF THE HELPERS: cloneBytesB1, byteEqB1, bytes.IndexByte.
-/
import Derived.Test.Qxb6603984aModsRows
import Derived.Test.Qxb6603984aModsPlain
import Derived.WalkKit
import Derived.WalkSpells
import Derived.ProofKit
import Derived.Below
import Derived.Deep.OwnRows
import Derived.Deep.QuietTactic
import Derived.BigQuiet
import Derived.Lib.BytesEntry
namespace Go.Proofs.Qxb6603984aMods
open Go.RowKit

theorem Trym.info5 : (Trym.prog.info? 5).map (fun i => (i.zero, i.size, i.bytes)) = some (some (.int .u8 0), 1, 1) := by kernel_rfl

/-- A row of bytes as an array of cells. -/
def row (zs : List Int) : Array Value := (zs.map (Value.int .u8)).toArray

theorem row_size (zs : List Int) : (row zs).size = zs.length := by simp [row]

theorem row_get (zs : List Int) (k : Nat) (h : k < zs.length) : (row zs)[k]? = some (.int .u8 (zs.getD k 0)) := by
  simp [row, List.getD, h]

/-- What cloneBytes has laid after k rounds. -/
def part (zs : List Int) (k : Nat) : Array Value := row (zs.take k ++ List.replicate (zs.length - k) 0)

theorem part_zero (zs : List Int) : madeCells #[.int .u8 0] zs.length = part zs 0 := by
  apply Array.ext_getElem?
  intro j
  by_cases hj : j < zs.length
  · simp [madeCells, part, row, hj, Nat.mod_one]
  · simp [madeCells, part, row, hj]

theorem part_get (zs : List Int) (k j : Nat) (h : k ≤ zs.length) : (part zs k)[j]? = if j < k then some (.int .u8 (zs.getD j 0)) else if j < zs.length then some (.int .u8 0) else none := by
  have hl : (zs.take k).length = k := by simp; omega
  simp only [part, row, List.getElem?_toArray, List.getElem?_map, List.getElem?_append, hl, List.getElem?_take, List.getElem?_replicate]
  by_cases h1 : j < k
  · have h2 : j < zs.length := by omega
    simp [h1, h2]
  · by_cases h2 : j < zs.length
    · have h3 : j - k < zs.length - k := by omega
      simp [h1, h2, h3]
    · have h3 : ¬ j - k < zs.length - k := by omega
      simp [h1, h2, h3]

theorem part_step (zs : List Int) (k : Nat) (h : k < zs.length) : (part zs k).setIfInBounds k (.int .u8 (zs.getD k 0)) = part zs (k + 1) := by
  apply Array.ext_getElem?
  intro j
  rw [Array.getElem?_setIfInBounds]
  have hs : (part zs k).size = zs.length := by simp [part, row]; omega
  rw [hs, part_get zs k j (by omega), part_get zs (k + 1) j (by omega)]
  by_cases hj : k = j
  · subst hj
    simp [h]
  · by_cases h1 : j < k
    · have h2 : j < k + 1 := by omega
      simp [hj, h1, h2]
    · have h2 : ¬ j < k + 1 := by omega
      simp [hj, h1, h2]

theorem part_all (zs : List Int) : part zs zs.length = row zs := by simp [part]

/-- cloneBytes AT nil. -/
theorem clone_nil (w : World) : Calls Trym.prog 7 #[.slice none 0 0] w fun e w' => e = .returned (.slice none 0 0) ∧ w = w' := by
  have hne := fun (w : World) (ao : Option Addr) (n c n' c' : Nat) => Lib.run_eql_slice_nil (P := Trym.prog) w 22 5 ao n c n' c' Trym.underlying22
  go_enter Trym.func7, Trym.ntmps7
  go_wp2
  go_ret
  exact ⟨rfl, rfl⟩

/-- cloneBytes AT an empty slice that is not nil: a new row without a cell. -/
theorem clone_zero (a : Addr) (cap : Nat) (w : World) :
    Calls Trym.prog 7 #[.slice (some a) 0 cap] w fun e w' => e = .returned (.slice (some ⟨w.heap.size, 0, none⟩) 0 0) ∧ w' = w.alloc (.cells (row []) 5) := by
  have hmk := fun w => run_make_row' (P := Trym.prog) 22 5 (.int .u8 0) 1 Trym.underlying22 Trym.info5 rfl .i64 .i64 0 (by omega) (by omega) w
  have hne := fun (w : World) (ao : Option Addr) (n c n' c' : Nat) => Lib.run_eql_slice_nil (P := Trym.prog) w 22 5 ao n c n' c' Trym.underlying22
  simp only [Int.natCast_zero] at hmk
  go_enter Trym.func7, Trym.ntmps7
  go_wp2
  refine wp_loop_rounds 1 ?_
  rw [rounds_succ]
  go_wp2
  go_ret
  exact ⟨rfl, by rw [show row [] = madeCells #[.int .u8 0] 0 from (part_zero []).symm ▸ rfl]⟩

set_option maxHeartbeats 400000 in
/-- cloneBytes AT a slice that is not nil: a new row with the same bytes. -/
theorem clone_at (b off cap : Nat) (zs : List Int) (w : World) (hb : zs.length ≤ 1048576)
    (hc : ∀ i, i < zs.length → w.cell? ⟨b, off + i, none⟩ = some (.int .u8 (zs.getD i 0))) (hbw : b < w.heap.size) :
    Calls Trym.prog 7 #[.slice (some ⟨b, off, none⟩) zs.length cap] w fun e w' => e = .returned (.slice (some ⟨w.heap.size, 0, none⟩) zs.length zs.length) ∧ w' = w.alloc (.cells (row zs) 5) := by
  have hmk := fun w => run_make_row' (P := Trym.prog) 22 5 (.int .u8 0) 1 Trym.underlying22 Trym.info5 rfl .i64 .i64 zs.length (by omega) (by omega) w
  have hne := fun (w : World) (ao : Option Addr) (n c n' c' : Nat) => Lib.run_eql_slice_nil (P := Trym.prog) w 22 5 ao n c n' c' Trym.underlying22
  have HC : Hid (∀ i, i < zs.length → w.cell? ⟨b, off + i, none⟩ = some (.int .u8 (zs.getD i 0))) := hc
  clear hc
  go_enter Trym.func7, Trym.ntmps7
  go_wp2
  rw [part_zero]
  clear hmk hne
  go_loopw [4] (fun i wr => ∃ k : Nat, k ≤ zs.length ∧ i = .int .i64 k ∧ wr = w.alloc (.cells (part zs k) 5)) (fun i _ => zs.length - (intOf i).toNat)
  case atStart => exact ⟨0, Nat.zero_le _, rfl, rfl⟩
  case round =>
    obtain ⟨k, hk, rfl, rfl⟩ := hrel
    by_cases hlt : k < zs.length
    · have hcx := HC.out k hlt
      have hst := part_step zs k hlt
      have hpk : (part zs k)[k]? = some (.int .u8 0) := by rw [part_get zs k k hk]; simp [hlt]
      generalize hz : zs.getD k 0 = z at hcx hst
      have HS : Hid ((part zs k).setIfInBounds k (.int .u8 z) = part zs (k + 1)) := hst
      clear hz hst
      go_wp2
      go_roundw
      case rel => exact ⟨k + 1, by omega, by go_num, by rw [HS.out]⟩
      case measure => simp [intOf]; omega
    · go_wp2
      go_ret
      obtain rfl : k = zs.length := by omega
      exact ⟨rfl, by rw [part_all]⟩

/-- WHAT IS KNOWN OF A SLICE THAT IS READ: its bytes are zs (of an empty one nothing is known). -/
def Rd (w : World) (a : Option Addr) (zs : List Int) : Prop :=
  zs = [] ∨ ∃ b off, a = some ⟨b, off, none⟩ ∧ ∀ i, i < zs.length → w.cell? ⟨b, off + i, none⟩ = some (.int .u8 (zs.getD i 0))

set_option maxHeartbeats 400000 in
/-- equalBytes AT two slices that hold the same bytes: true. -/
theorem equal_same (a a' : Option Addr) (c c' : Nat) (zs : List Int) (w : World) (hb : zs.length ≤ 1048576) (h : Rd w a zs) (h' : Rd w a' zs) :
    Calls Trym.prog 19 #[.slice a zs.length c, .slice a' zs.length c'] w fun e w' => e = .returned (.bool true) ∧ ∃ n, w' = w.drewN n := by
  have hnn : ((zs.length : Int) != (zs.length : Int)) = false := by simp
  rcases h with rfl | ⟨b, off, rfl, hc⟩
  · go_enter Trym.func19, Trym.ntmps19
    go_wp2
    refine wp_loop_rounds 1 ?_
    rw [rounds_succ]
    go_wp2
    go_ret
    exact ⟨rfl, 0, rfl⟩
  · rcases h' with rfl | ⟨b', off', rfl, hc'⟩
    · go_enter Trym.func19, Trym.ntmps19
      go_wp2
      refine wp_loop_rounds 1 ?_
      rw [rounds_succ]
      go_wp2
      go_ret
      exact ⟨rfl, 0, rfl⟩
    · have HC : Hid (∀ i, i < zs.length → w.cell? ⟨b, off + i, none⟩ = some (.int .u8 (zs.getD i 0))) := hc
      have HC' : Hid (∀ i, i < zs.length → w.cell? ⟨b', off' + i, none⟩ = some (.int .u8 (zs.getD i 0))) := hc'
      clear hc hc'
      go_enter Trym.func19, Trym.ntmps19
      go_wp2
      go_loopw [5] (fun i wr => ∃ k n : Nat, k ≤ zs.length ∧ i = .int .i64 k ∧ wr = w.drewN n) (fun i _ => zs.length - (intOf i).toNat)
      case atStart => exact ⟨0, 0, Nat.zero_le _, rfl, rfl⟩
      case round =>
        obtain ⟨k, n, hk, rfl, rfl⟩ := hrel
        by_cases hlt : k < zs.length
        · have h1 := HC.out k hlt
          have h2 := HC'.out k hlt
          generalize zs.getD k 0 = z at h1 h2
          have hi : (k : Int) < (zs.length : Int) := by omega
          have hzz : (z != z) = false := by simp
          go_wp2
          go_quiet (fail)
          go_wp2
          go_roundw
          case rel => exact ⟨k + 1, _, by omega, by go_num, rfl⟩
          case measure => simp [intOf]; omega
        · go_wp2
          go_ret
          exact ⟨rfl, _, rfl⟩

/-! ### bytes.IndexByte -/

theorem byte_eq {x y : Int} (h1 : 0 ≤ x ∧ x ≤ 255) (h2 : 0 ≤ y ∧ y ≤ 255) (h : UInt8.ofNat x.toNat = UInt8.ofNat y.toNat) : x = y := by
  have := congrArg UInt8.toNat h
  simp at this
  omega

theorem index_no (v : Int) (xs : List Int) (hv : 0 ≤ v ∧ v ≤ 255) (hw : ∀ c ∈ xs, 0 ≤ c ∧ c ≤ 255) (h : ∀ c ∈ xs, c ≠ v) : Lib.indexByte (Lib.bytesOf xs) v.toNat.toUInt8 = -1 := by
  induction xs with
  | nil => rfl
  | cons b r ih =>
    have e : (UInt8.ofNat b.toNat == v.toNat.toUInt8) = false := by
      rw [beq_eq_false_iff_ne]
      intro e
      exact h b (by simp) (byte_eq (hw b (by simp)) hv e)
    have ih' := ih (fun c hc => hw c (by simp [hc])) (fun c hc => h c (by simp [hc]))
    simp only [Lib.bytesOf, List.map_cons, Lib.indexByte] at ih' ⊢
    rw [e, ih']
    rfl

theorem index_yes (v : Int) (pre post : List Int) (hv : 0 ≤ v ∧ v ≤ 255) (hw : ∀ c ∈ pre, 0 ≤ c ∧ c ≤ 255) (h : ∀ c ∈ pre, c ≠ v) : Lib.indexByte (Lib.bytesOf (pre ++ v :: post)) v.toNat.toUInt8 = pre.length := by
  induction pre with
  | nil => simp [Lib.bytesOf, Lib.indexByte]
  | cons b r ih =>
    have e : (UInt8.ofNat b.toNat == v.toNat.toUInt8) = false := by
      rw [beq_eq_false_iff_ne]
      intro e
      exact h b (by simp) (byte_eq (hw b (by simp)) hv e)
    have ih' := ih (fun c hc => hw c (by simp [hc])) (fun c hc => h c (by simp [hc]))
    simp only [Lib.bytesOf, List.cons_append, List.map_cons, Lib.indexByte] at ih' ⊢
    rw [e, ih']
    have : ((r.length : Int) == -1) = false := by simp
    rw [this]
    simp

set_option maxHeartbeats 400000 in
/-- bytes.IndexByte. -/
theorem index_at (b o n c : Nat) (xs : List Int) (cv : Int) (w : World) (hx : xs.length = n)
    (hc : ∀ i, i < n → w.cell? ⟨b, o + i, none⟩ = some (.int .u8 (xs.getD i 0))) :
    Calls Trym.prog 28 #[.slice (some ⟨b, o, none⟩) n c, .int .u8 cv] w fun e w' => e = .returned (.int .i64 (Lib.indexByte (Lib.bytesOf xs) cv.toNat.toUInt8)) ∧ w' = w := by
  go_enter Trym.func28, Trym.ntmps28
  go_wp2
  rw [run_callFunc_extern Trym.func32 (by kernel_rfl) (by kernel_rfl) (by kernel_rfl) (e := Extern.BytealgIndexByte.indexByte) (by kernel_rfl), Lib.run_indexByteSlice w b o n c xs hx hc cv]
  simp only [Result.andThen]
  rw [Oper.upon_value]
  go_wp2
  go_ret
  exact ⟨rfl, rfl⟩

/-- cloneBytes AT whatever slice that is not nil. -/
theorem clone_any (x : Addr) (len cap : Nat) (z : List Int) (w : World) (hz : z.length = len) (hb : len ≤ 1048576) (hc : ∀ i, i < len → w.cell? (x.add i) = some (.int .u8 (z.getD i 0))) :
    Calls Trym.prog 7 #[.slice (some x) len cap] w fun e w' => e = .returned (.slice (some ⟨w.heap.size, 0, none⟩) len len) ∧ w' = w.alloc (.cells (row z) 5) := by
  subst hz
  by_cases h0 : z.length = 0
  · obtain rfl := List.eq_nil_of_length_eq_zero h0
    exact clone_zero x cap w
  · obtain ⟨b, off, spot⟩ := x
    have hc0 := hc 0 (by omega)
    have hspot : spot = none := by simpa [Addr.add] using World.cell?_spot hc0
    subst hspot
    refine clone_at b off cap z w hb (fun i hi => by rw [← Addr.add_lit]; exact hc i hi) ?_
    have := block_lt_of_cell hc0
    rwa [Addr.add_lit] at this

/-- A row of the call's own, cloned. -/
theorem clone_row (g len cap : Nat) (zs z : List Int) (w : World) (hg : w.heap[g]? = some (.cells (row zs) 5 (0, 0))) (hb : len ≤ 1048576) (hz : zs.take len = z) (hl : len ≤ zs.length) :
    Calls Trym.prog 7 #[.slice (some ⟨g, 0, none⟩) len cap] w fun e w' => e = .returned (.slice (some ⟨w.heap.size, 0, none⟩) len len) ∧ w' = w.alloc (.cells (row z) 5) := by
  refine clone_any ⟨g, 0, none⟩ len cap z w (by rw [← hz]; simp; omega) hb fun i hi => ?_
  rw [Addr.add_lit, Nat.zero_add, cell_of_row w g i _ _ _ hg, row_get zs i (by omega), ← hz]
  simp [List.getD, hi]

theorem rd_row (g len : Nat) (zs z : List Int) (w : World) (hg : w.heap[g]? = some (.cells (row zs) 5 (0, 0))) (hz : zs.take len = z) (hl : z.length ≤ zs.length) : Rd w (some ⟨g, 0, none⟩) z := by
  refine .inr ⟨g, 0, rfl, fun i hi => ?_⟩
  rw [Nat.zero_add, cell_of_row w g i _ _ _ hg, row_get zs i (by omega), ← hz]
  have : i < len := by have := congrArg List.length hz; simp at this; omega
  simp [List.getD, this]


end Go.Proofs.Qxb6603984aMods
