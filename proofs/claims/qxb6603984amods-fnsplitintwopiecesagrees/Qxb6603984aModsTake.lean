/-
  THE WALK OF take.
-/
import Derived.Test.Qxb6603984aModsFeed
import Derived.Deep.RegionHeld3
import Derived.Deep.RegionLaw
import Derived.Deep.DrawnRows
namespace Go.Proofs.Qxb6603984aMods
open Go.RowKit Plain
attribute [local go_sem ↓] Go.wp_at_zero Go.wp_at_succ

/-- A slice that is read: its bytes are xs; it lies outside F. -/
def PRow (w : World) (a : Option Addr) (c : Nat) (xs : List Int) (F : Nat → Prop) : Prop :=
  xs.length ≤ c ∧ (xs = [] ∨ ∃ pb off, a = some ⟨pb, off, none⟩ ∧ pb < w.heap.size ∧ ¬ F pb ∧ ∀ j, j < xs.length → w.cell? ⟨pb, off + j, none⟩ = some (.int .u8 (xs.getD j 0)))

theorem PRow.mono {w : World} {a : Option Addr} {c : Nat} {xs : List Int} {F G : Nat → Prop} (h : PRow w a c xs F) (hG : ∀ k, k < w.heap.size → G k → F k) : PRow w a c xs G := by
  obtain ⟨h1, h2⟩ := h
  refine ⟨h1, ?_⟩
  rcases h2 with h2 | ⟨pb, off, ha, hp, hf, hc⟩
  · exact .inl h2
  · exact .inr ⟨pb, off, ha, hp, fun hg => hf (hG pb hp hg), hc⟩

theorem PRow.kept {w w' : World} {a : Option Addr} {c : Nat} {xs : List Int} {F : Nat → Prop} (h : PRow w a c xs F) (ho : Only w w' F) : PRow w' a c xs F := by
  obtain ⟨h1, h2⟩ := h
  refine ⟨h1, ?_⟩
  rcases h2 with h2 | ⟨pb, off, ha, hp, hf, hc⟩
  · exact .inl h2
  · exact .inr ⟨pb, off, ha, Nat.lt_of_lt_of_le hp ho.size, hf, fun j hj => by rw [World.cell?_of_block (w := w) (ho.block pb hp hf)]; exact hc j hj⟩

set_option maxRecDepth 100000 in
/-- feed AT an empty slice. -/
theorem feed_zero (w : World) (sb : Nat) (ka : Option Addr) (kc : Nat) (ra : Option Addr) (rc : Nat) (S0 : Sc) (h : ScanAt w sb ka kc ra rc S0) (a : Option Addr) (c : Nat) :
    Calls Trym.prog 26 #[.pointer (some ⟨sb, 0, none⟩), .slice a 0 c] w fun e w' => e = .returned (.tuple #[]) ∧ Doing w sb ka ra S0 w' := by
  have H := hide h
  clear h
  go_enter Trym.func26, Trym.ntmps26
  go_wp2
  refine wp_loop_rounds 1 ?_
  rw [rounds_succ]
  go_wp2
  go_end0
  exact ⟨rfl, ka, kc, ra, rc, H.out, Frm.refl _ _ _ _⟩

/-- feed. -/
theorem feed_any (w : World) (sb : Nat) (ka : Option Addr) (kc : Nat) (ra : Option Addr) (rc : Nat) (S0 : Sc) (h : ScanAt w sb ka kc ra rc S0) (a : Option Addr) (c : Nat) (xs : List Int)
    (hl : xs.length ≤ 1048576) (hw : ∀ x ∈ xs, 0 ≤ x ∧ x ≤ 255) (hp : PRow w a c xs (Foot sb ka ra)) :
    Calls Trym.prog 26 #[.pointer (some ⟨sb, 0, none⟩), .slice a xs.length c] w fun e w' => e = .returned (.tuple #[]) ∧ Doing w sb ka ra (feedL S0 xs) w' := by
  obtain ⟨hc, hp⟩ := hp
  rcases hp with rfl | ⟨pb, off, rfl, hpw, hpf, hpc⟩
  · exact feed_zero w sb ka kc ra rc S0 h a c
  · exact feed_some w sb ka kc ra rc S0 h pb off c xs hl hc hw hpc hpf hpw

/-- The events' cells. -/
def fldE (E : Ev) (fa : Option Addr) (fc : Nat) : Array Value := #[.int .i64 E.line, .slice fa E.field.length fc, .bool (isData E.field)]

/-- THE EVENTS AND THE SCAN IN MEMORY. -/
structure EvAt (w : World) (eb sb : Nat) (fa : Option Addr) (fc : Nat) (ka : Option Addr) (kc : Nat) (ra : Option Addr) (rc : Nat) (E : Ev) : Prop where
  cells : w.heap[eb]? = some (.cells (fldE E fa fc) 49 (0, 0))
  field : Own w fa fc E.field
  scan : ScanAt w sb ka kc ra rc E.sc
  apartK : ∀ g, blk fa = some g → blk ka ≠ some g
  apartR : ∀ g, blk fa = some g → blk ra ≠ some g

/-- The blocks that the events may write. -/
def FootE (eb sb : Nat) (fa ka ra : Option Addr) (k : Nat) : Prop := k = eb ∨ blk fa = some k ∨ Foot sb ka ra k

/-- FRAME of whatever the events do. -/
structure FrmE (w : World) (eb sb : Nat) (fa ka ra : Option Addr) (w' : World) (fa' ka' ra' : Option Addr) : Prop where
  only : Only w w' (FootE eb sb fa ka ra)
  field : ∀ g, blk fa' = some g → blk fa = some g ∨ w.heap.size ≤ g
  key : ∀ g, blk ka' = some g → blk ka = some g ∨ w.heap.size ≤ g
  raw : ∀ g, blk ra' = some g → blk ra = some g ∨ w.heap.size ≤ g

theorem FrmE.refl (w : World) (eb sb : Nat) (fa ka ra : Option Addr) : FrmE w eb sb fa ka ra w fa ka ra := ⟨Only.refl _ _, fun _ h => .inl h, fun _ h => .inl h, fun _ h => .inl h⟩

theorem FrmE.trans {w w1 w2 : World} {eb sb : Nat} {fa ka ra fa1 ka1 ra1 fa2 ka2 ra2 : Option Addr} (h : FrmE w eb sb fa ka ra w1 fa1 ka1 ra1) (h' : FrmE w1 eb sb fa1 ka1 ra1 w2 fa2 ka2 ra2) : FrmE w eb sb fa ka ra w2 fa2 ka2 ra2 where
  only := h.only.trans h'.only (fun k hk hf => by
    rcases hf with hf | hf | hf | hf | hf
    · exact .inl hf
    · rcases h.field k hf with h1 | h1
      · exact .inr (.inl h1)
      · omega
    · exact .inr (.inr (.inl hf))
    · rcases h.key k hf with h1 | h1
      · exact .inr (.inr (.inr (.inl h1)))
      · omega
    · rcases h.raw k hf with h1 | h1
      · exact .inr (.inr (.inr (.inr h1)))
      · omega)
  field := fun g hg => by
    rcases h'.field g hg with h1 | h1
    · exact h.field g h1
    · have := h.only.size; right; omega
  key := fun g hg => by
    rcases h'.key g hg with h1 | h1
    · exact h.key g h1
    · have := h.only.size; right; omega
  raw := fun g hg => by
    rcases h'.raw g hg with h1 | h1
    · exact h.raw g h1
    · have := h.only.size; right; omega

namespace EvAt
variable {w : World} {eb sb : Nat} {fa : Option Addr} {fc : Nat} {ka : Option Addr} {kc : Nat} {ra : Option Addr} {rc : Nat} {E : Ev}

theorem lt (h : EvAt w eb sb fa fc ka kc ra rc E) : eb < w.heap.size := (Array.getElem?_eq_some_iff.1 h.cells).1

theorem fieldNe (h : EvAt w eb sb fa fc ka kc ra rc E) : ∀ g, blk fa = some g → g ≠ eb := fun g hg => h.field.ne hg h.cells (by decide)
theorem fieldNeS (h : EvAt w eb sb fa fc ka kc ra rc E) : ∀ g, blk fa = some g → g ≠ sb := fun g hg => h.field.ne hg h.scan.cells (by decide)
theorem keyNe (h : EvAt w eb sb fa fc ka kc ra rc E) : ∀ g, blk ka = some g → g ≠ eb := fun g hg => h.scan.key.ne hg h.cells (by decide)
theorem rawNe (h : EvAt w eb sb fa fc ka kc ra rc E) : ∀ g, blk ra = some g → g ≠ eb := fun g hg => h.scan.raw.ne hg h.cells (by decide)

theorem neES (h : EvAt w eb sb fa fc ka kc ra rc E) : eb ≠ sb := by
  intro e
  have h1 := h.cells
  rw [e, h.scan.cells] at h1
  simp at h1

/-- Nothing of the scan's lies in the events' own blocks. -/
theorem footS (h : EvAt w eb sb fa fc ka kc ra rc E) (k : Nat) (hk : k = eb ∨ blk fa = some k) : ¬ Foot sb ka ra k := by
  intro hf
  rcases hk with rfl | hk
  · rcases hf with hf | hf | hf
    · exact h.neES hf
    · exact h.keyNe _ hf rfl
    · exact h.rawNe _ hf rfl
  · rcases hf with hf | hf | hf
    · exact h.fieldNeS _ hk hf
    · exact h.apartK _ hk hf
    · exact h.apartR _ hk hf

theorem frm_store (w : World) (eb sb : Nat) (fa ka ra : Option Addr) (i : Nat) (v : Value) : FrmE w eb sb fa ka ra (w.setCell ⟨eb, i, none⟩ v) fa ka ra :=
  ⟨(Only.refl _ _).setCell _ _ (fun _ => .inl rfl), fun _ h => .inl h, fun _ h => .inl h, fun _ h => .inl h⟩

/-- A field that is no slice is stored. -/
theorem store (h : EvAt w eb sb fa fc ka kc ra rc E) (i : Nat) (v : Value) (E' : Ev) (he : (fldE E fa fc).setIfInBounds i v = fldE E' fa fc) (hf : E'.field = E.field) (hs : E'.sc = E.sc) :
    EvAt (w.setCell ⟨eb, i, none⟩ v) eb sb fa fc ka kc ra rc E' where
  cells := by rw [heap_setCell_same w eb i _ _ v h.cells, he]
  field := by rw [hf]; exact h.field.same (fun g hg => heap_setCell_other _ _ _ _ (h.fieldNe g hg))
  scan := by rw [hs]; exact h.scan.kept (F := fun k => k = eb) ((Only.refl _ _).setCell _ _ (fun _ => rfl)) (fun k hk => h.footS k (.inl hk))
  apartK := h.apartK
  apartR := h.apartR

/-- What the scan does leaves the events alone. -/
theorem scanned {w' : World} {ka' : Option Addr} {kc' : Nat} {ra' : Option Addr} {rc' : Nat} {S' : Sc} (h : EvAt w eb sb fa fc ka kc ra rc E) (hs : ScanAt w' sb ka' kc' ra' rc' S') (hf : Frm w sb ka ra w' ka' ra') :
    EvAt w' eb sb fa fc ka' kc' ra' rc' { E with sc := S' } ∧ FrmE w eb sb fa ka ra w' fa ka' ra' := by
  refine ⟨⟨?_, ?_, hs, ?_, ?_⟩, ⟨hf.only.wider (fun k _ hk => .inr (.inr hk)), fun _ h => .inl h, hf.key, hf.raw⟩⟩
  · rw [hf.only.block eb h.lt (h.footS eb (.inl rfl))]
    exact h.cells
  · exact h.field.same (fun g hg => hf.only.block g (h.field.lt hg) (h.footS g (.inr hg)))
  · intro g hg hk
    rcases hf.key g hk with h1 | h1
    · exact h.apartK g hg h1
    · have := h.field.lt hg; omega
  · intro g hg hk
    rcases hf.raw g hk with h1 | h1
    · exact h.apartR g hg h1
    · have := h.field.lt hg; omega

/-- A new row for the field, stored, and the mark stored. -/
theorem newField {w1 : World} {fa' : Option Addr} {fc' : Nat} {field' : List Int} (h : EvAt w eb sb fa fc ka kc ra rc E) (hg : w.grownBy w1 (blk fa)) (ho : Own w1 fa' fc' field') (hw : ∀ g, blk fa' = some g → blk fa = some g ∨ w.heap.size ≤ g) :
    EvAt ((w1.setCell ⟨eb, 1, none⟩ (.slice fa' field'.length fc')).setCell ⟨eb, 2, none⟩ (.bool (isData field'))) eb sb fa' fc' ka kc ra rc { E with field := field' } ∧
    FrmE w eb sb fa ka ra ((w1.setCell ⟨eb, 1, none⟩ (.slice fa' field'.length fc')).setCell ⟨eb, 2, none⟩ (.bool (isData field'))) fa' ka ra ∧ Own (w1.setCell ⟨eb, 1, none⟩ (.slice fa' field'.length fc')) fa' fc' field' := by
  have hsb : w1.heap[eb]? = some (.cells (fldE E fa fc) 49 (0, 0)) := by
    rw [hg.block eb h.lt (fun e => h.fieldNe eb e.symm rfl)]
    exact h.cells
  have hk' : ∀ g, blk fa' = some g → g ≠ eb := fun g hb => ho.ne hb hsb (by decide)
  have o1 : Only w w1 (fun k => k = eb ∨ blk fa = some k) := Only.grown hg (fun k hk => .inr hk)
  have o2 := (o1.setCell ⟨eb, 1, none⟩ (.slice fa' field'.length fc') (fun _ => .inl rfl)).setCell ⟨eb, 2, none⟩ (.bool (isData field')) (fun _ => .inl rfl)
  refine ⟨⟨?_, ?_, ?_, ?_, ?_⟩, ⟨?_, hw, fun _ h => .inl h, fun _ h => .inl h⟩, ?_⟩
  · rw [heap_setCell_same _ eb 2 _ _ _ (heap_setCell_same w1 eb 1 _ _ _ hsb)]
    rfl
  · exact ho.same (fun g hb => by rw [heap_setCell_other _ _ _ _ (hk' g hb), heap_setCell_other _ _ _ _ (hk' g hb)])
  · exact h.scan.kept o2 (fun k hk => h.footS k hk)
  · intro g hb hr
    rcases hw g hb with h1 | h1
    · exact h.apartK g h1 hr
    · have := h.scan.key.lt hr; omega
  · intro g hb hr
    rcases hw g hb with h1 | h1
    · exact h.apartR g h1 hr
    · have := h.scan.raw.lt hr; omega
  · exact o2.wider (fun k _ hk => by rcases hk with hk | hk; exact .inl hk; exact .inr (.inl hk))
  · exact ho.same (fun g hb => heap_setCell_other _ _ _ _ (hk' g hb))

end EvAt

/-- What the events are asked to do. -/
def DoingE (w : World) (eb sb : Nat) (fa ka ra : Option Addr) (E' : Ev) (w' : World) : Prop := ∃ fa' fc' ka' kc' ra' rc', EvAt w' eb sb fa' fc' ka' kc' ra' rc' E' ∧ FrmE w eb sb fa ka ra w' fa' ka' ra'

theorem takeL_parts (E : Ev) (t r : List Int) (h1 : (E.field ++ t).length ≤ 5) (h2 : ¬ (E.field ++ t).length < 5 ∨ r = []) :
    takeL E (t ++ r) = { line := E.line + (t ++ r).length, field := E.field ++ t, sc := if isData (E.field ++ t) = true then feedL E.sc r else E.sc } := by
  have h1' : E.field.length + t.length ≤ 5 := by simpa using h1
  rw [takeL_eq (t ++ r) E (by omega)]
  have e1 : (t ++ r).take (5 - E.field.length) = t ∧ (t ++ r).drop (5 - E.field.length) = r := by
    rcases h2 with h2 | rfl
    · have h2' : ¬ E.field.length + t.length < 5 := by simpa using h2
      exact ⟨List.take_left' (by omega), List.drop_left' (by omega)⟩
    · rw [List.append_nil]
      exact ⟨List.take_of_length_le (by omega), List.drop_of_length_le (by omega)⟩
  rw [e1.1, e1.2]

/-- The number of a slice's elements. -/
def lenOf : Value → Nat | .slice _ n _ => n | _ => 0

set_option maxHeartbeats 2000000 in
set_option maxRecDepth 100000 in
/-- take. -/
theorem take_any (w : World) (eb sb : Nat) (fa : Option Addr) (fc : Nat) (ka : Option Addr) (kc : Nat) (ra : Option Addr) (rc : Nat) (E : Ev) (h : EvAt w eb sb fa fc ka kc ra rc E)
    (a : Option Addr) (c : Nat) (seg : List Int) (hl : seg.length ≤ 1048576) (hline : E.line ≤ 1099511627776) (hfl : E.field.length ≤ 5) (hw : ∀ x ∈ seg, 0 ≤ x ∧ x ≤ 255) (hp : PRow w a c seg (FootE eb sb fa ka ra)) :
    Calls Trym.prog 29 #[.pointer (some ⟨eb, 0, none⟩), .slice a seg.length c, .pointer (some ⟨sb, 0, none⟩)] w fun e w' => e = .returned (.tuple #[]) ∧ DoingE w eb sb fa ka ra (takeL E seg) w' := by
  obtain ⟨hcell, hfroz⟩ := told h.cells
  simp only [fldE] at hcell
  have H1 := hide (h.store 0 (.int .i64 ((E.line + seg.length : Nat) : Int)) { E with line := E.line + seg.length } rfl rfl rfl)
  have HW := hide hw
  have HP := hide hp
  have hcast : ((E.line + seg.length : Nat) : Int) = (E.line : Int) + (seg.length : Int) := by omega
  clear h hp hw
  go_enter Trym.func29, Trym.ntmps29
  go_wp2
  rw [← hcast]
  go_loopw [1] (fun sv wr => ∃ (t r : List Int) (a' : Option Addr) (c' : Nat) (fa' : Option Addr) (fc' : Nat), sv = .slice a' r.length c' ∧ Hid (seg = t ++ r) ∧ (E.field ++ t).length ≤ 5 ∧ Hid (PRow w a' c' r (FootE eb sb fa ka ra)) ∧
      Hid (EvAt wr eb sb fa' fc' ka kc ra rc { line := E.line + seg.length, field := E.field ++ t, sc := E.sc }) ∧ Hid (FrmE w eb sb fa ka ra wr fa' ka ra)) (fun sv _ => lenOf sv)
  case atStart => exact ⟨[], seg, a, c, fa, fc, rfl, rfl, by simpa using hfl, HP.out, hide (by simpa using H1.out), EvAt.frm_store _ _ _ _ _ _ _ _⟩
  case round =>
    obtain ⟨t, r, a', c', fa', fc', rfl, hsg, hft, hpr, hev, hfr⟩ := hrel
    clear hcell hfroz
    obtain ⟨hcell, hfroz⟩ := told hev.out.cells
    simp only [fldE] at hcell
    by_cases hgo : (E.field ++ t).length < 5 ∧ 0 < r.length
    · obtain ⟨hlt, hr0⟩ := hgo
      obtain ⟨x, r', rfl⟩ : ∃ x r', r = x :: r' := by
        cases r with
        | nil => simp at hr0
        | cons x r' => exact ⟨x, r', rfl⟩
      obtain ⟨hcl, hpr2⟩ := hpr.out
      obtain ⟨pb, off, rfl, hpw, hpf, hpc⟩ : ∃ pb off, a' = some ⟨pb, off, none⟩ ∧ pb < w.heap.size ∧ ¬ FootE eb sb fa ka ra pb ∧ ∀ j, j < (x :: r').length → w.cell? ⟨pb, off + j, none⟩ = some (.int .u8 ((x :: r').getD j 0)) := by
        rcases hpr2 with hh | hh
        · simp at hh
        · exact hh
      have hx : wr.cell? ⟨pb, off, none⟩ = some (.int .u8 x) := by
        rw [World.cell?_of_block (w := w) (hfr.out.only.block pb hpw hpf)]
        simpa using hpc 0 (by simp)
      obtain ⟨o2, hsl, hso⟩ : ∃ o2, (if c' = 1 then some (⟨pb, off, none⟩ : Addr) else some ⟨pb, off + 1, none⟩) = some ⟨pb, o2, none⟩ ∧ Hid (0 < r'.length → o2 = off + 1) := by
        by_cases h1 : c' = 1
        · exact ⟨off, by rw [if_pos h1], fun h0 => by simp at hcl; omega⟩
        · exact ⟨off + 1, by rw [if_neg h1], fun _ => rfl⟩
      have HPR2 : Hid (PRow w (some ⟨pb, o2, none⟩) (c' - 1) r' (FootE eb sb fa ka ra)) := by
        refine ⟨by simp at hcl; omega, ?_⟩
        by_cases h0 : r' = []
        · exact .inl h0
        · refine .inr ⟨pb, o2, rfl, hpw, hpf, fun j hj => ?_⟩
          rw [hso.out (by omega), Nat.add_assoc, hpc (1 + j) (by simp; omega)]
          simp [List.getD, Nat.add_comm 1 j]
      have HSEG : Hid (seg = (t ++ [x]) ++ r') := by show _ = _; rw [hsg.out]; simp
      have hcl1 : 1 ≤ c' := by simp at hcl; omega
      clear hpr2 hpr hpc hso hsg
      have HEQ : Hid (∀ y, E.field ++ (t ++ [y]) = E.field ++ t ++ [y]) := fun y => by simp
      generalize hfd : E.field ++ t = fd at hlt hft hcell hev HEQ
      have HFD := hide hfd
      clear hfd
      have hown : wr.ownsRow 0 5 1 (.slice fa' fd.length fc') fd.length (fd.map (Value.int .u8)) := hev.out.field
      have HOWN := hide hown
      have le : eb < wr.heap.size := hev.out.lt
      have lp : pb < wr.heap.size := block_lt_of_cell hx
      have ae : (Value.slice fa' fd.length fc').ownBlock ≠ some eb := by rw [own_blk]; exact fun e => hev.out.fieldNe eb e rfl
      have ap : (Value.slice fa' fd.length fc').ownBlock ≠ some pb := by
        rw [own_blk]
        intro e
        rcases hfr.out.field pb e with h1 | h1
        · exact hpf (.inr (.inl h1))
        · omega
      have hf1 := hfroz 1
      have hfz : ∀ o : Obj, (wr.alloc o).frozen? ⟨eb, 1, none⟩ = false := fun o => by rw [World.frozen?_alloc_past o eb 1 le]; exact hf1
      have he1 := hcell 1
      simp at he1
      have hca : ∀ o : Obj, (wr.alloc o).cell? ⟨eb, 1, none⟩ = some (.slice fa' fd.length fc') := fun o => by rw [World.cell?_alloc_past o eb 1 le]; exact he1
      obtain ⟨i0, hi0, hz0, hz1, hz2⟩ := info_parts Trym.info5
      have hn1 : fd.length + 1 ≤ maxLen := by unfold maxLen; omega
      have hlen0 : (0 : Int) < (r'.length : Int) + 1 := by omega
      clear hown
      go_wp2
      go_region_law (refine step_append_lies _ (by rfl) _ _ _ (by rfl) 0 5 i0 _ 1 1 Trym.underlying22 hi0 hz0 hz1 hz2 rfl (by omega) (.slice fa' fd.length fc') fd.length (fd.map (Value.int .u8)) (by rfl) ((World.ownsRow.alloc HOWN.out _).drew) ⟨wr.heap.size, 0, none⟩ 1 1 [.int .u8 x] (by rfl) (by rfl) (World.news_of_block (cs := #[.int .u8 x]) (t := 5) (fr := (0, 0)) (Go.heap_alloc_new wr _)) (by simp [Value.oneCell']) (by omega) hn1 (by omega) (by simp) (wr.heap.size + 1) (by simp) ?_; intro g cap w1 hown1 hgrow hat hlt1; have hc1 : w1.cell? ⟨eb, 1, none⟩ = some (.slice fa' fd.length fc') := (hgrow.cell_far _ (by simp; omega) (Ne.symm ae)).trans (hca _); have hf2 : w1.frozen? ⟨eb, 1, none⟩ = false := (hgrow.frozen_far _ (by simp; omega) (Ne.symm ae)).trans (hfz _))
      all_goals
        have hgrow' : (wr.alloc (.cells #[.int .u8 x] 5)).grownBy w1 (Value.slice fa' fd.length fc').ownBlock := ⟨hgrow.os, hgrow.tape, hgrow.output, hgrow.size, hgrow.block⟩
        have O := own1 hown1 hgrow' (by simpa using hat)
        have N0 := hev.out.newField O.2.1 O.1 O.2.2
        have hw1 : w1.heap[eb]? = some (.cells (fldE { line := E.line + seg.length, field := fd, sc := E.sc } fa' fc') 49 (0, 0)) := by
          rw [O.2.1.block eb le (fun e => hev.out.fieldNe eb e.symm rfl)]
          exact hev.out.cells
        have hconv := N0.2.2.conv
        simp only [List.length_append, List.length_singleton] at N0 hconv
        have N := hide N0
        obtain ⟨hcell1, hfroz1⟩ := told hw1
        simp only [fldE] at hcell1
        clear hgrow' hgrow hown1 hat hlt1 O N0 hw1 hc1 hf2 hca hfz he1 hf1 hcell hfroz ae ap
        go_wp2
        go_roundw
        case rel =>
          (repeat apply Exists.intro)
          exact ⟨⟨t ++ [x], r', some ⟨pb, o2, none⟩, c' - 1, some ⟨g, 0, none⟩, cap, rfl, HSEG.out, by rw [HEQ.out x]; simp; omega, HPR2.out, by rw [HEQ.out x]; exact N.out.1, hfr.out.trans N.out.2.1⟩, rfl⟩
        case measure => simp [lenOf]
    · have hout : ¬ (E.field ++ t).length < 5 ∨ ((E.field ++ t).length < 5 ∧ r = []) := by
        by_cases h5 : (E.field ++ t).length < 5
        · exact .inr ⟨h5, List.eq_nil_of_length_eq_zero (by omega)⟩
        · exact .inl h5
      have HT : Hid (takeL E seg = { line := E.line + seg.length, field := E.field ++ t, sc := if isData (E.field ++ t) = true then feedL E.sc r else E.sc }) := by
        show _ = _
        have := takeL_parts E t r hft (by rcases hout with h | h; exact .inl h; exact .inr h.2)
        rw [← hsg.out] at this
        exact this
      have HPF : Hid (PRow wr a' c' r (Foot sb ka ra)) := (hpr.out.kept hfr.out.only).mono (fun k _ hk => .inr (.inr hk))
      have hrl : r.length ≤ seg.length := by rw [hsg.out]; simp
      have HWR : Hid (∀ x ∈ r, 0 ≤ x ∧ x ≤ 255) := fun x hx => HW.out x (by rw [hsg.out]; simp [hx])
      rcases Bool.eq_false_or_eq_true (isData (E.field ++ t)) with hd | hd
      · have HT2 : Hid (takeL E seg = { line := E.line + seg.length, field := E.field ++ t, sc := feedL E.sc r }) := by show _ = _; rw [HT.out, if_pos hd]
        simp only [hd] at hcell
        clear hd HT
        generalize E.field ++ t = fd at *
        rcases hout with h5 | ⟨h5, rfl⟩
        · have h5' : decide ((fd.length : Int) < 5) = false := decide_eq_false (by omega)
          go_wp2_with fail
          refine (feed_any wr sb ka kc ra rc E.sc hev.out.scan a' c' r (by omega) HWR.out HPF.out).mono ?_
          rintro e w1 ⟨rfl, ka2, kc2, ra2, rc2, st2, fr2⟩
          have N := hide (hev.out.scanned st2 fr2)
          clear st2 fr2
          go_wp2
          go_end0
          rw [HT2.out]
          exact ⟨rfl, fa', fc', ka2, kc2, ra2, rc2, N.out.1, hfr.out.trans N.out.2⟩
        · go_wp2_with fail
          refine (feed_any wr sb ka kc ra rc E.sc hev.out.scan a' c' [] (by simp) HWR.out HPF.out).mono ?_
          rintro e w1 ⟨rfl, ka2, kc2, ra2, rc2, st2, fr2⟩
          have N := hide (hev.out.scanned st2 fr2)
          clear st2 fr2
          go_wp2
          go_end0
          rw [HT2.out]
          exact ⟨rfl, fa', fc', ka2, kc2, ra2, rc2, N.out.1, hfr.out.trans N.out.2⟩
      · have HT2 : Hid (takeL E seg = { line := E.line + seg.length, field := E.field ++ t, sc := E.sc }) := by show _ = _; rw [HT.out, if_neg (by rw [hd]; decide)]
        simp only [hd] at hcell
        clear hd HT
        generalize E.field ++ t = fd at *
        rcases hout with h5 | ⟨h5, rfl⟩
        · have h5' : decide ((fd.length : Int) < 5) = false := decide_eq_false (by omega)
          go_wp2
          go_end0
          rw [HT2.out]
          exact ⟨rfl, fa', fc', ka, kc, ra, rc, hev.out, hfr.out⟩
        · go_wp2
          go_end0
          rw [HT2.out]
          exact ⟨rfl, fa', fc', ka, kc, ra, rc, hev.out, hfr.out⟩

end Go.Proofs.Qxb6603984aMods
