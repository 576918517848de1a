/-
  MEMORY: rows that the call owns; the scan in memory; frames.
-/
import Derived.Test.Qxb6603984aModsHelp
import Derived.Test.Qxb6603984aModsPlain
import Derived.Deep.AppendLies
import Derived.Laws.BytesArg
namespace Go.Proofs.Qxb6603984aMods
open Go.RowKit Plain

theorem hide {p : Prop} (h : p) : Hid p := h

/-- The block of a slice's address. -/
def blk (ao : Option Addr) : Option Nat := ao.map (·.block)

theorem own_blk (ao : Option Addr) (n c : Nat) : (Value.slice ao n c).ownBlock = blk ao := by cases ao <;> rfl

/-- The call owns a row with the bytes xs. -/
def Own (w : World) (ao : Option Addr) (c : Nat) (xs : List Int) : Prop := w.ownsRow 0 5 1 (.slice ao xs.length c) xs.length (xs.map (Value.int .u8))

namespace Own
variable {w w' : World} {ao : Option Addr} {c : Nat} {xs : List Int}

theorem form (h : Own w ao c xs) : (ao = none ∧ c = 0 ∧ xs = []) ∨ ∃ g cur, ao = some ⟨g, 0, none⟩ ∧ w.heap[g]? = some (.cells cur 5 (0, 0)) ∧ xs.length ≤ c ∧ c ≤ maxLen ∧ cur.size = c ∧ cur.toList.take xs.length = xs.map (Value.int .u8) := by
  obtain ⟨h1, h2⟩ := h
  rcases h2 with ⟨h2, h3⟩ | ⟨g, cap, cur, hv, _, hh, hn, hc, hs, ht⟩
  · simp only [Value.slice.injEq] at h2
    exact .inl ⟨h2.1, h2.2.2, List.eq_nil_of_length_eq_zero h3⟩
  · simp only [Value.slice.injEq] at hv
    obtain ⟨rfl, _, rfl⟩ := hv
    simp only [Nat.mul_one] at hs ht
    exact .inr ⟨g, cur, rfl, hh, hn, hc, hs, ht⟩

theorem mk {g : Nat} {cur : Array Value} (hh : w.heap[g]? = some (.cells cur 5 (0, 0))) (hn : xs.length ≤ c) (hc : c ≤ maxLen) (hs : cur.size = c) (ht : cur.toList.take xs.length = xs.map (Value.int .u8)) : Own w (some ⟨g, 0, none⟩) c xs :=
  ⟨by simp, .inr ⟨g, c, cur, rfl, Nat.zero_le _, hh, hn, hc, by simpa using hs, by simpa using ht⟩⟩

theorem none_ (w : World) : Own w none 0 [] := ⟨by simp, .inl ⟨rfl, rfl⟩⟩

theorem same (h : Own w ao c xs) (hb : ∀ g, blk ao = some g → w'.heap[g]? = w.heap[g]?) : Own w' ao c xs := by
  rcases h.form with ⟨rfl, rfl, rfl⟩ | ⟨g, cur, rfl, hh, r⟩
  · exact none_ w'
  · exact mk (by rw [hb g rfl]; exact hh) r.1 r.2.1 r.2.2.1 r.2.2.2

theorem tag (h : Own w ao c xs) {g : Nat} (hg : blk ao = some g) : ∃ cur, w.heap[g]? = some (.cells cur 5 (0, 0)) := by
  rcases h.form with ⟨rfl, rfl, rfl⟩ | ⟨g', cur, rfl, hh, r⟩
  · simp [blk] at hg
  · simp [blk] at hg
    subst hg
    exact ⟨cur, hh⟩

theorem lt (h : Own w ao c xs) {g : Nat} (hg : blk ao = some g) : g < w.heap.size := by
  obtain ⟨cur, hh⟩ := h.tag hg
  exact (Array.getElem?_eq_some_iff.1 hh).1

/-- It lies in no block of another type. -/
theorem ne (h : Own w ao c xs) {g b : Nat} (hg : blk ao = some g) {cs : Array Value} {t : TypeId} {fr : Nat × Nat} (hb : w.heap[b]? = some (.cells cs t fr)) (ht : t ≠ 5) : g ≠ b := by
  intro e
  subst e
  obtain ⟨cur, hh⟩ := h.tag hg
  rw [hh] at hb
  simp at hb
  exact ht hb.2.1.symm

theorem empty (h : Own w ao c xs) : Own w ao c [] := by
  rcases h.form with ⟨rfl, rfl, rfl⟩ | ⟨g, cur, rfl, hh, hn, hc, hs, ht⟩
  · exact none_ w
  · exact mk hh (Nat.zero_le _) hc hs (by simp)

theorem get (h : Own w ao c xs) (i : Nat) (hi : i < xs.length) : ∃ g, ao = some ⟨g, 0, none⟩ ∧ w.cell? ⟨g, i, none⟩ = some (.int .u8 (xs.getD i 0)) := by
  rcases h.form with ⟨rfl, rfl, rfl⟩ | ⟨g, cur, rfl, hh, hn, hc, hs, ht⟩
  · simp at hi
  · refine ⟨g, rfl, ?_⟩
    rw [cell_of_row w g i _ _ _ hh]
    have h1 : cur.toList[i]? = some (.int .u8 (xs.getD i 0)) := by
      have h2 : (cur.toList.take xs.length)[i]? = cur.toList[i]? := by rw [List.getElem?_take, if_pos hi]
      rw [← h2, ht]
      simp [List.getD, hi]
    simpa using h1

theorem rd (h : Own w ao c xs) : Rd w ao xs := by
  rcases h.form with ⟨rfl, rfl, rfl⟩ | ⟨g, cur, rfl, hh, _⟩
  · exact .inl rfl
  · refine .inr ⟨g, 0, rfl, fun i hi => ?_⟩
    obtain ⟨g', he, hc⟩ := h.get i hi
    simp at he
    subst he
    simpa using hc

theorem le (h : Own w ao c xs) : xs.length ≤ c := by
  rcases h.form with ⟨rfl, rfl, rfl⟩ | ⟨g, cur, rfl, hh, hn, _⟩
  · simp
  · exact hn

/-- A row as cloneBytesB1 lays it. -/
theorem of_row {g : Nat} (hg : w.heap[g]? = some (.cells (row xs) 5 (0, 0))) (hl : xs.length ≤ maxLen) : Own w (some ⟨g, 0, none⟩) xs.length xs :=
  mk hg (Nat.le_refl _) hl (row_size xs) (by simp [row]; rw [List.take_of_length_le (by simp)])

/-- The string of its bytes. -/
theorem conv (h : Own w ao c xs) : (convert 22 9 (.slice ao xs.length c)).run Trym.prog w = .ok (.string (strOfNums xs)) w := by
  rcases h.form with ⟨rfl, rfl, rfl⟩ | ⟨g, cur, rfl, hh, _⟩
  · have := run_convert_bytes_nil (P := Trym.prog) w 22 5 Trym.underlying22 Trym.underlying5 0 0 9 Trym.underlying9
    exact this
  · exact run_convert_bytes_arg (P := Trym.prog) w 22 5 Trym.underlying22 Trym.underlying5 g 0 xs.length c xs rfl (fun i hi => by
      obtain ⟨g', he, hc⟩ := h.get i hi
      simp at he
      subst he
      simpa using hc) 9 Trym.underlying9

end Own

/-- FRAME: what was there in w and lies in no block of F is in w' as it was. -/
structure Only (w w' : World) (F : Nat → Prop) : Prop where
  os : w'.os = w.os
  tape : w'.tape = w.tape
  output : w'.output = w.output
  size : w.heap.size ≤ w'.heap.size
  block : ∀ k, k < w.heap.size → ¬ F k → w'.heap[k]? = w.heap[k]?

namespace Only
variable {w w' w'' : World} {F G : Nat → Prop}

theorem refl (w : World) (F : Nat → Prop) : Only w w F := ⟨rfl, rfl, rfl, Nat.le_refl _, fun _ _ _ => rfl⟩

theorem trans (h : Only w w' F) (h' : Only w' w'' G) (hG : ∀ k, k < w.heap.size → G k → F k) : Only w w'' F :=
  ⟨h'.os.trans h.os, h'.tape.trans h.tape, h'.output.trans h.output, Nat.le_trans h.size h'.size, fun k hk hF => (h'.block k (Nat.lt_of_lt_of_le hk h.size) (fun hg => hF (hG k hk hg))).trans (h.block k hk hF)⟩

theorem wider (h : Only w w' F) (hG : ∀ k, k < w.heap.size → F k → G k) : Only w w' G := ⟨h.os, h.tape, h.output, h.size, fun k hk hn => h.block k hk (fun hf => hn (hG k hk hf))⟩

theorem grown {row : Option Nat} (h : w.grownBy w' row) (hF : ∀ k, row = some k → F k) : Only w w' F :=
  ⟨h.os, h.tape, h.output, h.size, fun k hk hn => h.block k hk (fun e => hn (hF k e.symm))⟩

theorem alloc (h : Only w w' F) (o : Obj) : Only w (w'.alloc o) F :=
  ⟨h.os, h.tape, h.output, by have := h.size; simp; omega, fun k hk hn => by rw [Below.heap_alloc _ _ _ (by have := h.size; omega)]; exact h.block k hk hn⟩

theorem setCell (h : Only w w' F) (a : Addr) (v : Value) (ha : a.block < w.heap.size → F a.block) : Only w (w'.setCell a v) F :=
  ⟨h.os, h.tape, h.output, by have := h.size; simp [World.setCell]; omega, fun k hk hn => by
    rw [heap_setCell_other _ _ _ _ (fun e => hn (by rw [e]; exact ha (by rw [← e]; exact hk)))]; exact h.block k hk hn⟩

theorem drewN (h : Only w w' F) (n : Nat) : Only w (w'.drewN n) F := ⟨h.os, h.tape, h.output, h.size, h.block⟩

theorem drew (h : Only w w' F) : Only w w'.drew F := ⟨h.os, h.tape, h.output, h.size, h.block⟩

theorem below (h : Only w w' F) {B : Nat} (hF : ∀ k, F k → B ≤ k) (hB : B ≤ w.heap.size) : Below B w w' :=
  ⟨h.os, h.tape, h.output, h.size, fun k hk => h.block k (by omega) (fun hf => by have := hF k hf; omega)⟩

end Only

/-- The scan's cells. -/
def fld (S : Sc) (ka : Option Addr) (kc : Nat) (ra : Option Addr) (rc : Nat) : Array Value :=
  #[.int .i64 S.depth, .bool S.str, .bool S.esc, .int .i64 S.pos, .bool S.inKey, .slice ka S.key.length kc, .bool S.inID, .slice ra S.raw.length rc, .bool S.method]

/-- THE SCAN IN MEMORY: at block sb; its key and its id in rows of their own. -/
structure ScanAt (w : World) (sb : Nat) (ka : Option Addr) (kc : Nat) (ra : Option Addr) (rc : Nat) (S : Sc) : Prop where
  cells : w.heap[sb]? = some (.cells (fld S ka kc ra rc) 54 (0, 0))
  key : Own w ka kc S.key
  raw : Own w ra rc S.raw
  apart : ∀ g, blk ka = some g → blk ra ≠ some g

/-- The blocks that the scan may write. -/
def Foot (sb : Nat) (ka ra : Option Addr) (k : Nat) : Prop := k = sb ∨ blk ka = some k ∨ blk ra = some k

/-- FRAME of whatever the scan does. -/
structure Frm (w : World) (sb : Nat) (ka ra : Option Addr) (w' : World) (ka' ra' : Option Addr) : Prop where
  only : Only w w' (Foot sb ka ra)
  key : ∀ g, blk ka' = some g → blk ka = some g ∨ w.heap.size ≤ g
  raw : ∀ g, blk ra' = some g → blk ra = some g ∨ w.heap.size ≤ g

theorem Frm.refl (w : World) (sb : Nat) (ka ra : Option Addr) : Frm w sb ka ra w ka ra := ⟨Only.refl _ _, fun _ h => .inl h, fun _ h => .inl h⟩

theorem Frm.trans {w w1 w2 : World} {sb : Nat} {ka ra ka1 ra1 ka2 ra2 : Option Addr} (h : Frm w sb ka ra w1 ka1 ra1) (h' : Frm w1 sb ka1 ra1 w2 ka2 ra2) : Frm w sb ka ra w2 ka2 ra2 where
  only := h.only.trans h'.only (fun k hk hf => by
    rcases hf with hf | hf | hf
    · exact .inl hf
    · rcases h.key k hf with h1 | h1
      · exact .inr (.inl h1)
      · omega
    · rcases h.raw k hf with h1 | h1
      · exact .inr (.inr h1)
      · omega)
  key := fun g hg => by
    rcases h'.key g hg with h1 | h1
    · exact h.key g h1
    · have := h.only.size; right; omega
  raw := fun g hg => by
    rcases h'.raw g hg with h1 | h1
    · exact h.raw g h1
    · have := h.only.size; right; omega

namespace ScanAt
variable {w : World} {sb : Nat} {ka : Option Addr} {kc : Nat} {ra : Option Addr} {rc : Nat} {S : Sc}

theorem lt (h : ScanAt w sb ka kc ra rc S) : sb < w.heap.size := (Array.getElem?_eq_some_iff.1 h.cells).1

theorem keyNe (h : ScanAt w sb ka kc ra rc S) : ∀ g, blk ka = some g → g ≠ sb := fun g hg => h.key.ne hg h.cells (by decide)
theorem rawNe (h : ScanAt w sb ka kc ra rc S) : ∀ g, blk ra = some g → g ≠ sb := fun g hg => h.raw.ne hg h.cells (by decide)

theorem cell (h : ScanAt w sb ka kc ra rc S) (i : Nat) : w.cell? ⟨sb, i, none⟩ = (fld S ka kc ra rc)[i]? := cell_of_row w sb i _ _ _ h.cells

theorem froz (h : ScanAt w sb ka kc ra rc S) (i : Nat) : w.frozen? ⟨sb, i, none⟩ = false := frozen_of_row w sb i _ _ h.cells

/-- A field that is no slice is stored. -/
theorem store (h : ScanAt w sb ka kc ra rc S) (i : Nat) (v : Value) (S' : Sc) (he : (fld S ka kc ra rc).setIfInBounds i v = fld S' ka kc ra rc) (hk : S'.key = S.key) (hr : S'.raw = S.raw) :
    ScanAt (w.setCell ⟨sb, i, none⟩ v) sb ka kc ra rc S' where
  cells := by rw [heap_setCell_same w sb i _ _ v h.cells, he]
  key := by rw [hk]; exact h.key.same (fun g hg => heap_setCell_other _ _ _ _ (h.keyNe g hg))
  raw := by rw [hr]; exact h.raw.same (fun g hg => heap_setCell_other _ _ _ _ (h.rawNe g hg))
  apart := h.apart

theorem frm_store (w : World) (sb : Nat) (ka ra : Option Addr) (i : Nat) (v : Value) : Frm w sb ka ra (w.setCell ⟨sb, i, none⟩ v) ka ra :=
  ⟨(Only.refl _ _).setCell _ _ (fun _ => .inl rfl), fun _ h => .inl h, fun _ h => .inl h⟩

/-- The scan lies as it lay where only new blocks were laid. -/
theorem alloc (h : ScanAt w sb ka kc ra rc S) (o : Obj) : ScanAt (w.alloc o) sb ka kc ra rc S where
  cells := by rw [Below.heap_alloc _ _ _ h.lt]; exact h.cells
  key := h.key.same (fun g hg => Below.heap_alloc _ _ _ (h.key.lt hg))
  raw := h.raw.same (fun g hg => Below.heap_alloc _ _ _ (h.raw.lt hg))
  apart := h.apart

/-- The scan lies as it lay, whatever was done outside. -/
theorem kept {w' : World} {F : Nat → Prop} (h : ScanAt w sb ka kc ra rc S) (ho : Only w w' F) (hF : ∀ k, F k → ¬ Foot sb ka ra k) : ScanAt w' sb ka kc ra rc S where
  cells := by rw [ho.block sb h.lt (fun hf => hF sb hf (.inl rfl))]; exact h.cells
  key := h.key.same (fun g hg => ho.block g (h.key.lt hg) (fun hf => hF g hf (.inr (.inl hg))))
  raw := h.raw.same (fun g hg => ho.block g (h.raw.lt hg) (fun hf => hF g hf (.inr (.inr hg))))
  apart := h.apart

/-- A new row for the key, stored. -/
theorem newKey {w1 : World} {ka' : Option Addr} {kc' : Nat} {key' : List Int} (h : ScanAt w sb ka kc ra rc S) (hg : w.grownBy w1 (blk ka)) (ho : Own w1 ka' kc' key') (hw : ∀ g, blk ka' = some g → blk ka = some g ∨ w.heap.size ≤ g) :
    ScanAt (w1.setCell ⟨sb, 5, none⟩ (.slice ka' key'.length kc')) sb ka' kc' ra rc { S with key := key' } ∧ Frm w sb ka ra (w1.setCell ⟨sb, 5, none⟩ (.slice ka' key'.length kc')) ka' ra := by
  have hsb : w1.heap[sb]? = some (.cells (fld S ka kc ra rc) 54 (0, 0)) := by
    rw [hg.block sb h.lt (fun e => h.keyNe sb e.symm rfl)]
    exact h.cells
  have hk' : ∀ g, blk ka' = some g → g ≠ sb := fun g hb => ho.ne hb hsb (by decide)
  refine ⟨⟨?_, ?_, ?_, ?_⟩, ⟨?_, hw, fun _ h => .inl h⟩⟩
  · rw [heap_setCell_same w1 sb 5 _ _ _ hsb]
    rfl
  · exact ho.same (fun g hb => heap_setCell_other _ _ _ _ (hk' g hb))
  · refine h.raw.same (fun g hb => ?_)
    rw [heap_setCell_other _ _ _ _ (h.rawNe g hb), hg.block g (h.raw.lt hb) (fun e => h.apart g e.symm hb)]
  · intro g hb hr
    rcases hw g hb with h1 | h1
    · exact h.apart g h1 hr
    · have := h.raw.lt hr; omega
  · exact (Only.grown hg (F := Foot sb ka ra) (fun k hk => .inr (.inl hk))).setCell _ _ (fun _ => .inl rfl)

/-- A new row for the id, stored. -/
theorem newRaw {w1 : World} {ra' : Option Addr} {rc' : Nat} {raw' : List Int} (h : ScanAt w sb ka kc ra rc S) (hg : w.grownBy w1 (blk ra)) (ho : Own w1 ra' rc' raw') (hw : ∀ g, blk ra' = some g → blk ra = some g ∨ w.heap.size ≤ g) :
    ScanAt (w1.setCell ⟨sb, 7, none⟩ (.slice ra' raw'.length rc')) sb ka kc ra' rc' { S with raw := raw' } ∧ Frm w sb ka ra (w1.setCell ⟨sb, 7, none⟩ (.slice ra' raw'.length rc')) ka ra' := by
  have hsb : w1.heap[sb]? = some (.cells (fld S ka kc ra rc) 54 (0, 0)) := by
    rw [hg.block sb h.lt (fun e => h.rawNe sb e.symm rfl)]
    exact h.cells
  have hk' : ∀ g, blk ra' = some g → g ≠ sb := fun g hb => ho.ne hb hsb (by decide)
  refine ⟨⟨?_, ?_, ?_, ?_⟩, ⟨?_, fun _ h => .inl h, hw⟩⟩
  · rw [heap_setCell_same w1 sb 7 _ _ _ hsb]
    rfl
  · refine h.key.same (fun g hb => ?_)
    rw [heap_setCell_other _ _ _ _ (h.keyNe g hb), hg.block g (h.key.lt hb) (fun e => h.apart g hb e.symm)]
  · exact ho.same (fun g hb => heap_setCell_other _ _ _ _ (hk' g hb))
  · intro g hb hr
    rcases hw g hr with h1 | h1
    · exact h.apart g hb h1
    · have := h.key.lt hb; omega
  · exact (Only.grown hg (F := Foot sb ka ra) (fun k hk => .inr (.inr hk))).setCell _ _ (fun _ => .inl rfl)

theorem keepKey {w1 : World} (h : ScanAt w sb ka kc ra rc S) (hg : w.grownBy w1 (blk ka)) : w1.heap[sb]? = some (.cells (fld S ka kc ra rc) 54 (0, 0)) := by
  rw [hg.block sb h.lt (fun e => h.keyNe sb e.symm rfl)]
  exact h.cells

theorem keepRaw {w1 : World} (h : ScanAt w sb ka kc ra rc S) (hg : w.grownBy w1 (blk ra)) : w1.heap[sb]? = some (.cells (fld S ka kc ra rc) 54 (0, 0)) := by
  rw [hg.block sb h.lt (fun e => h.rawNe sb e.symm rfl)]
  exact h.cells

end ScanAt

/-- What a walk is told of a block that is known whole. -/
theorem told {w : World} {b : Nat} {cs : Array Value} {t : TypeId} (h : w.heap[b]? = some (.cells cs t (0, 0))) : (∀ i, w.cell? ⟨b, i, none⟩ = cs[i]?) ∧ (∀ i, w.frozen? ⟨b, i, none⟩ = false) :=
  ⟨fun i => cell_of_row w b i _ _ _ h, fun i => frozen_of_row w b i _ _ h⟩

end Go.Proofs.Qxb6603984aMods
