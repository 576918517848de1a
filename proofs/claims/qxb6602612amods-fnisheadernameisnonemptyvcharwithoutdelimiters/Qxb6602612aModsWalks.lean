/-
  THE WALKS: zzTokenChar, strings.IndexByte, isHeaderName, ZZIsHeaderName.
-/
import Derived.Test.Qxb6602612aModsRows
import Derived.WalkKit
import Derived.WalkSpells
import Derived.ProofKit
import Derived.Lib.Bytealg
import Derived.Lib.IndexBytes
namespace Go.Proofs.Qxb6602612aMods
open Go.RowKit

theorem hide {p : Prop} (h : p) : Hid p := h

/-- A token's character, as the law's own function tells it. -/
def tokI (x : Int) : Bool :=
  !(decide (x < 33) || decide (126 < x)) && !(x == 34 || x == 40 || x == 41 || x == 44 || x == 47 || x == 58 || x == 59 || x == 60 || x == 61 || x == 62 || x == 63 || x == 64 || x == 91 || x == 92 || x == 93 || x == 123 || x == 125)

theorem tok_small (x : Int) (w : World) (h : x < 33 ∨ 126 < x) : Calls Trym.prog 9 #[.int .u8 x] w fun e w' => e = .returned (.bool (tokI x)) ∧ w = w' := by
  have ht : tokI x = false := by
    rcases h with h | h <;> simp [tokI, h]
  rw [ht]
  clear ht
  rcases h with h | h
  · go_enter Trym.func9, Trym.ntmps9
    go_wp2
    go_ret
    exact ⟨rfl, rfl⟩
  · have h' : ¬ x < 33 := by omega
    go_enter Trym.func9, Trym.ntmps9
    go_wp2
    go_ret
    exact ⟨rfl, rfl⟩

theorem tok_mid (x : Int) (w : World) (h1 : ¬ x < 33) (h2 : ¬ 126 < x) : Calls Trym.prog 9 #[.int .u8 x] w fun e w' => e = .returned (.bool (tokI x)) ∧ w = w' := by
  have ht : Hid (tokI x = !(x == 34 || x == 40 || x == 41 || x == 44 || x == 47 || x == 58 || x == 59 || x == 60 || x == 61 || x == 62 || x == 63 || x == 64 || x == 91 || x == 92 || x == 93 || x == 123 || x == 125)) := by
    show _ = _
    simp [tokI, h1, h2]
  obtain ⟨t, htt⟩ : ∃ t, tokI x = t := ⟨_, rfl⟩
  rw [htt]
  have HT := hide htt
  clear htt
  go_enter Trym.func9, Trym.ntmps9
  go_wp2
  all_goals
    go_ret
    have e := ht.out
    rw [HT.out] at e
    simp [*] at e
    subst e
    exact ⟨rfl, rfl⟩

theorem tok_any (x : Int) (w : World) : Calls Trym.prog 9 #[.int .u8 x] w fun e w' => e = .returned (.bool (tokI x)) ∧ w = w' := by
  by_cases h : x < 33 ∨ 126 < x
  · exact tok_small x w h
  · exact tok_mid x w (fun h1 => h (.inl h1)) (fun h2 => h (.inr h2))

/-- internal/stringslite.IndexByte. -/
theorem lite_any (s : ByteArray) (c : Int) (w : World) :
    Calls Trym.prog 19 #[.string s, .int .u8 c] w fun e w' => e = .returned (.int .i64 (Lib.indexByte s.data.toList c.toNat.toUInt8)) ∧ w = w' := by
  go_enter Trym.func19, Trym.ntmps19
  go_wp2
  rw [run_callFunc_extern Trym.func20 (by kernel_rfl) (by kernel_rfl) (by kernel_rfl) (e := Extern.BytealgIndexByte.indexByte) (by kernel_rfl), Lib.run_indexByteString]
  simp only [Result.andThen]
  rw [Oper.upon_value]
  go_wp2
  go_ret
  exact ⟨rfl, rfl⟩

/-- strings.IndexByte. -/
theorem index_any (s : ByteArray) (c : Int) (r : Int) (w : World) (hr : Lib.indexByte s.data.toList c.toNat.toUInt8 = r) :
    Calls Trym.prog 18 #[.string s, .int .u8 c] w fun e w' => e = .returned (.int .i64 r) ∧ w = w' := by
  have H := hide hr
  clear hr
  go_enter Trym.func18, Trym.ntmps18
  go_wp2_with (go_at_call 19; refine (lite_any _ _ _).mono ?_; rintro e w' ⟨rfl, rfl⟩)
  go_ret
  exact ⟨by rw [H.out]; rfl, rfl⟩

/-- The punctuation that a token may hold. -/
def punct : ByteArray := { data := #[33, 35, 36, 37, 38, 39, 42, 43, 45, 46, 94, 95, 96, 124, 126] }

/-- A token's character by the program's own road. -/
def alnum (n : Nat) : Bool := (decide (97 ≤ n) && decide (n ≤ 122)) || (decide (65 ≤ n) && decide (n ≤ 90)) || (decide (48 ≤ n) && decide (n ≤ 57))

theorem table : ∀ n : Fin 256, (alnum n.val || decide (0 ≤ Lib.indexByte punct.data.toList (UInt8.ofNat n.val))) = tokI (n.val : Int) := by decide +kernel

def tokB (b : UInt8) : Bool := tokI (b.toNat : Int)

theorem table_byte (b : UInt8) : (alnum b.toNat || decide (0 ≤ Lib.indexByte punct.data.toList b)) = tokB b := by
  have h := table ⟨b.toNat, b.toNat_lt⟩
  simp only [UInt8.ofNat_toNat] at h
  exact h

/-- A header's name. -/
def nameB (l : List UInt8) : Bool := !l.isEmpty && l.all tokB

end Go.Proofs.Qxb6602612aMods
