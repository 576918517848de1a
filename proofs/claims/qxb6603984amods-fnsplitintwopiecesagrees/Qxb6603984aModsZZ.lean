/-
  THE WALKS OF zzMakeScanB1, zzScanOutB1, ZZSplitB1.
-/
import Derived.Test.Qxb6603984aModsSplit
import Derived.BigRegion
import Derived.Deep.RegionHeld3
namespace Go.Proofs.Qxb6603984aMods
open Go.RowKit Plain

/-- zzMakeScanB1. -/
theorem make_any (S : Sc) (ka : Option Addr) (kc : Nat) (ra : Option Addr) (rc : Nat) (w : World) :
    Calls Trym.prog 22 #[.agg (fld S ka kc ra rc)] w fun e w' => e = .returned (.pointer (some ⟨w.heap.size + 1, 0, none⟩)) ∧ w' = (w.alloc (.cells (fld S ka kc ra rc) 26)).alloc (.cells (fld S ka kc ra rc) 54) := by
  unfold fld
  go_enter Trym.func22, Trym.ntmps22
  go_wp2
  go_ret
  exact ⟨rfl, rfl⟩

set_option maxHeartbeats 2000000 in
set_option maxRecDepth 100000 in
/-- zzScanOutB1. -/
theorem out_any (w : World) (sb : Nat) (ka : Option Addr) (kc : Nat) (ra : Option Addr) (rc : Nat) (S : Sc) (h : ScanAt w sb ka kc ra rc S) :
    Calls Trym.prog 24 #[.pointer (some ⟨sb, 0, none⟩)] w fun e w' => e = .returned (.agg (fld S ka kc ra rc)) ∧ ∃ n, w' = (w.alloc (.cells (fld S ka kc ra rc) 26)).drewN n := by
  obtain ⟨hcell, hfroz⟩ := told h.cells
  have hlt := h.lt
  simp only [fld] at hcell
  have c0 := hcell 0
  have c1 := hcell 1
  have c2 := hcell 2
  have c3 := hcell 3
  have c4 := hcell 4
  have c5 := hcell 5
  have c6 := hcell 6
  have c7 := hcell 7
  have c8 := hcell 8
  simp at c0 c1 c2 c3 c4 c5 c6 c7 c8
  clear h hcell hfroz
  go_enter Trym.func24, Trym.ntmps24
  go_wp2
  go_region_held3 (fun w' => w'.cell? ⟨sb, 0, none⟩ = some (.int .i64 S.depth) ∧ w'.cell? ⟨sb, 1, none⟩ = some (.bool S.str) ∧ w'.cell? ⟨sb, 2, none⟩ = some (.bool S.esc) ∧ w'.cell? ⟨sb, 3, none⟩ = some (.int .i64 S.pos) ∧ w'.cell? ⟨sb, 4, none⟩ = some (.bool S.inKey) ∧ w'.cell? ⟨sb, 5, none⟩ = some (.slice ka S.key.length kc) ∧ w'.cell? ⟨sb, 6, none⟩ = some (.bool S.inID) ∧ w'.cell? ⟨sb, 7, none⟩ = some (.slice ra S.raw.length rc) ∧ w'.cell? ⟨sb, 8, none⟩ = some (.bool S.method)) (go_keep) (fail)
  go_wp2
  refine bodyPost_ret (v := .agg (fld S ka kc ra rc)) (by simp [results, Trym.results24, fld, go_sem]) rfl ⟨rfl, 1, rfl⟩

/-- The three rows of the events and the scan. -/
structure Rows3 (w : World) (fa : Option Addr) (fc : Nat) (ka : Option Addr) (kc : Nat) (ra : Option Addr) (rc : Nat) (E : Ev) : Prop where
  field : Own w fa fc E.field
  key : Own w ka kc E.sc.key
  raw : Own w ra rc E.sc.raw
  apart : ∀ g, blk ka = some g → blk ra ≠ some g
  apartK : ∀ g, blk fa = some g → blk ka ≠ some g
  apartR : ∀ g, blk fa = some g → blk ra ≠ some g

def Foot3 (fa ka ra : Option Addr) (k : Nat) : Prop := blk fa = some k ∨ blk ka = some k ∨ blk ra = some k

theorem blk_lt3 {w : World} {fa : Option Addr} {fc : Nat} {ka : Option Addr} {kc : Nat} {ra : Option Addr} {rc : Nat} {E : Ev} (h : Rows3 w fa fc ka kc ra rc E) (k : Nat) (hk : Foot3 fa ka ra k) : k < w.heap.size := by
  rcases hk with hk | hk | hk
  · exact h.field.lt hk
  · exact h.key.lt hk
  · exact h.raw.lt hk

/-- The blocks that ZZSplitB1 lays before it calls split. -/
def laid (w : World) (E : Ev) (fa : Option Addr) (fc : Nat) (ka : Option Addr) (kc : Nat) (ra : Option Addr) (rc : Nat) (z35 z26 : Array Value) : World :=
  ((((((w.alloc (.cells (fldE E fa fc) 35)).alloc (.cells (fld E.sc ka kc ra rc) 26)).alloc (.cells z35 35)).alloc (.cells z26 26)).alloc (.cells (fldE E fa fc) 49)).alloc (.cells (fld E.sc ka kc ra rc) 26)).alloc (.cells (fld E.sc ka kc ra rc) 54)

theorem laid_size (w : World) (E : Ev) (fa : Option Addr) (fc : Nat) (ka : Option Addr) (kc : Nat) (ra : Option Addr) (rc : Nat) (z35 z26 : Array Value) : (laid w E fa fc ka kc ra rc z35 z26).heap.size = w.heap.size + 7 := by
  simp [laid]

theorem laid_old (w : World) (E : Ev) (fa : Option Addr) (fc : Nat) (ka : Option Addr) (kc : Nat) (ra : Option Addr) (rc : Nat) (z35 z26 : Array Value) (F : Nat → Prop) : Only w (laid w E fa fc ka kc ra rc z35 z26) F :=
  (((((((Only.refl w F).alloc _).alloc _).alloc _).alloc _).alloc _).alloc _).alloc _

theorem laid_ev {w : World} {E : Ev} {fa : Option Addr} {fc : Nat} {ka : Option Addr} {kc : Nat} {ra : Option Addr} {rc : Nat} (h : Rows3 w fa fc ka kc ra rc E) (z35 z26 : Array Value) :
    EvAt (laid w E fa fc ka kc ra rc z35 z26) (w.heap.size + 4) (w.heap.size + 6) fa fc ka kc ra rc E := by
  have ho := laid_old w E fa fc ka kc ra rc z35 z26 (fun _ => False)
  have hb : ∀ {ao : Option Addr} {c : Nat} {xs : List Int}, Own w ao c xs → Own (laid w E fa fc ka kc ra rc z35 z26) ao c xs := fun h => h.same (fun g hg => ho.block g (h.lt hg) (fun f => f))
  refine ⟨?_, hb h.field, ⟨?_, hb h.key, hb h.raw, h.apart⟩, h.apartK, h.apartR⟩
  · unfold laid
    rw [Below.heap_alloc _ _ _ (by simp), Below.heap_alloc _ _ _ (by simp)]
    have := Go.heap_alloc_new ((((w.alloc (.cells (fldE E fa fc) 35)).alloc (.cells (fld E.sc ka kc ra rc) 26)).alloc (.cells z35 35)).alloc (.cells z26 26)) (.cells (fldE E fa fc) 49)
    simpa using this
  · unfold laid
    have := Go.heap_alloc_new ((((((w.alloc (.cells (fldE E fa fc) 35)).alloc (.cells (fld E.sc ka kc ra rc) 26)).alloc (.cells z35 35)).alloc (.cells z26 26)).alloc (.cells (fldE E fa fc) 49)).alloc (.cells (fld E.sc ka kc ra rc) 26)) (.cells (fld E.sc ka kc ra rc) 54)
    simpa using this

end Go.Proofs.Qxb6603984aMods
