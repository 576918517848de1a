/-
  THE WALK OF ZZSplitB1.
-/
import Derived.Test.Qxb6603984aModsZZ
import Derived.Deep.RegionHeld3
namespace Go.Proofs.Qxb6603984aMods
open Go.RowKit Plain

theorem laid_b2 (w : World) (E : Ev) (fa : Option Addr) (fc : Nat) (ka : Option Addr) (kc : Nat) (ra : Option Addr) (rc : Nat) (z35 z26 : Array Value) : (laid w E fa fc ka kc ra rc z35 z26).heap[w.heap.size + 2]? = some (.cells z35 35 (0, 0)) := by
  unfold laid
  rw [Below.heap_alloc _ _ _ (by simp), Below.heap_alloc _ _ _ (by simp), Below.heap_alloc _ _ _ (by simp), Below.heap_alloc _ _ _ (by simp)]
  have := Go.heap_alloc_new ((w.alloc (.cells (fldE E fa fc) 35)).alloc (.cells (fld E.sc ka kc ra rc) 26)) (.cells z35 35)
  simpa using this

theorem laid_b3 (w : World) (E : Ev) (fa : Option Addr) (fc : Nat) (ka : Option Addr) (kc : Nat) (ra : Option Addr) (rc : Nat) (z35 z26 : Array Value) : (laid w E fa fc ka kc ra rc z35 z26).heap[w.heap.size + 3]? = some (.cells z26 26 (0, 0)) := by
  unfold laid
  rw [Below.heap_alloc _ _ _ (by simp), Below.heap_alloc _ _ _ (by simp), Below.heap_alloc _ _ _ (by simp)]
  have := Go.heap_alloc_new (((w.alloc (.cells (fldE E fa fc) 35)).alloc (.cells (fld E.sc ka kc ra rc) 26)).alloc (.cells z35 35)) (.cells z26 26)
  simpa using this

/-- What ZZSplitB1 leaves. -/
def Left15 (w : World) (fa ka ra : Option Addr) (w' : World) (E' : Ev) (fa' : Option Addr) (fc' : Nat) (ka' : Option Addr) (kc' : Nat) (ra' : Option Addr) (rc' : Nat) : Prop :=
  Rows3 w' fa' fc' ka' kc' ra' rc' E' ∧ Only w w' (Foot3 fa ka ra) ∧
      (∀ g, blk fa' = some g → blk fa = some g ∨ w.heap.size ≤ g) ∧ (∀ g, blk ka' = some g → blk ka = some g ∨ w.heap.size ≤ g) ∧ (∀ g, blk ra' = some g → blk ra = some g ∨ w.heap.size ≤ g)

theorem left_of {w w2 w3 : World} {E E' : Ev} {fa : Option Addr} {fc : Nat} {ka : Option Addr} {kc : Nat} {ra : Option Addr} {rc : Nat} {fa2 : Option Addr} {fc2 : Nat} {ka2 : Option Addr} {kc2 : Nat} {ra2 : Option Addr} {rc2 : Nat} {z35 z26 c2 c3 : Array Value} {b2 b3 b4 b6 : Nat}
    (ev : EvAt w2 b4 b6 fa2 fc2 ka2 kc2 ra2 rc2 E') (fr : FrmE (laid w E fa fc ka kc ra rc z35 z26) (w.heap.size + 4) (w.heap.size + 6) fa ka ra w2 fa2 ka2 ra2)
    (h2 : w2.heap[b2]? = some (.cells c2 35 (0, 0))) (h3 : w2.heap[b3]? = some (.cells c3 26 (0, 0))) (hb2 : w.heap.size ≤ b2) (hb3 : w.heap.size ≤ b3) (ho : Only w2 w3 (fun k => k = b2 ∨ k = b3)) :
    Left15 w fa ka ra w3 E' fa2 fc2 ka2 kc2 ra2 rc2 := by
  have hk : ∀ {ao : Option Addr} {c : Nat} {xs : List Int}, Own w2 ao c xs → Own w3 ao c xs := fun h => h.same (fun g hg => ho.block g (h.lt hg) (fun f => by
    rcases f with f | f
    · exact h.ne hg h2 (by decide) f
    · exact h.ne hg h3 (by decide) f))
  have hsz := laid_size w E fa fc ka kc ra rc z35 z26
  refine ⟨⟨hk ev.field, hk ev.scan.key, hk ev.scan.raw, ev.scan.apart, ev.apartK, ev.apartR⟩, ?_, ?_, ?_, ?_⟩
  · refine ((laid_old w E fa fc ka kc ra rc z35 z26 _).trans fr.only ?_).trans ho ?_
    · intro k hk hf
      rcases hf with hf | hf | hf | hf | hf
      · omega
      · exact .inl hf
      · omega
      · exact .inr (.inl hf)
      · exact .inr (.inr hf)
    · intro k hk hf
      omega
  · intro g hg
    rcases fr.field g hg with h | h
    · exact .inl h
    · right; omega
  · intro g hg
    rcases fr.key g hg with h | h
    · exact .inl h
    · right; omega
  · intro g hg
    rcases fr.raw g hg with h | h
    · exact .inl h
    · right; omega

set_option maxHeartbeats 4000000 in
set_option maxRecDepth 100000 in
/-- ZZSplitB1. -/
theorem zz_any (w : World) (E : Ev) (fa : Option Addr) (fc : Nat) (ka : Option Addr) (kc : Nat) (ra : Option Addr) (rc : Nat) (h : Rows3 w fa fc ka kc ra rc E)
    (a : Option Addr) (c : Nat) (xs : List Int) (hl : xs.length ≤ 1048576) (hline : E.line ≤ 4294967296) (hfl : E.field.length = min E.line 5) (hw : ∀ x ∈ xs, 0 ≤ x ∧ x ≤ 255) (hp : PRow w a c xs (Foot3 fa ka ra)) :
    Calls Trym.prog 15 #[.agg (fldE E fa fc), .agg (fld E.sc ka kc ra rc), .slice a xs.length c] w fun e w' => ∃ fa' fc' ka' kc' ra' rc',
      e = .returned (.tuple #[.agg (fldE (splitL E xs).ev fa' fc'), .agg (fld (splitL E xs).ev.sc ka' kc' ra' rc'), .int .i64 (splitL E xs).n, .bool (splitL E xs).ok, .int .i64 (splitL E xs).delim]) ∧
      Left15 w fa ka ra w' (splitL E xs).ev fa' fc' ka' kc' ra' rc' := by
  have hsp := fun z35 z26 => split_any (laid w E fa fc ka kc ra rc z35 z26) (w.heap.size + 4) (w.heap.size + 6) fa fc ka kc ra rc E (laid_ev h z35 z26) a c xs hl hline hfl hw
    ((hp.mono (fun k hk hf => by
      rcases hf with hf | hf | hf | hf | hf
      · omega
      · exact .inl hf
      · omega
      · exact .inr (.inl hf)
      · exact .inr (.inr hf))).kept (laid_old w E fa fc ka kc ra rc z35 z26 _))
  obtain ⟨⟨⟨L, F, T⟩, n, ok, delim⟩, hO⟩ : ∃ O, O = splitL E xs := ⟨_, rfl⟩
  rw [← hO]
  simp only [← hO] at hsp
  dsimp only
  have HSP := hide hsp
  clear hO
  have H := hide h
  clear hsp h hw hp hfl
  have hmk := make_any E.sc ka kc ra rc
  have HMK := hide hmk
  clear hmk
  unfold fldE fld
  go_enter Trym.func15, Trym.ntmps15
  go_wp2_with fail
  refine (HMK.out _).mono ?_
  rintro e w1 ⟨rfl, rfl⟩
  simp only [fld]
  go_wp2_with fail
  refine (HSP.out #[.int .i64 0, .slice none 0 0, .bool false] #[.int .i64 0, .bool false, .bool false, .int .i64 0, .bool false, .slice none 0 0, .bool false, .slice none 0 0, .bool false]).mono ?_
  rintro e w2 ⟨rfl, fa2, fc2, ka2, kc2, ra2, rc2, ev2, fr2⟩
  go_wp2_with fail
  generalize hb6 : w.heap.size + 1 + 1 + 1 + 1 + 1 + 1 = b6
  generalize hb4 : w.heap.size + 1 + 1 + 1 + 1 = b4
  generalize hb3 : w.heap.size + 1 + 1 + 1 = b3
  generalize hb2 : w.heap.size + 1 + 1 = b2
  have ev3 : EvAt w2 b4 b6 fa2 fc2 ka2 kc2 ra2 rc2 ⟨L, F, T⟩ := by rw [← hb4, ← hb6]; exact ev2
  have sz : w.heap.size + 7 ≤ w2.heap.size := by have := fr2.only.size; rw [laid_size] at this; exact this
  have nf : ∀ k, w.heap.size ≤ k → k ≠ w.heap.size + 4 → k ≠ w.heap.size + 6 → ¬ FootE (w.heap.size + 4) (w.heap.size + 6) fa ka ra k := by
    intro k h1 h2 h3 hf
    rcases hf with hf | hf | hf | hf | hf
    · exact h2 hf
    · have := H.out.field.lt hf; omega
    · exact h3 hf
    · have := H.out.key.lt hf; omega
    · have := H.out.raw.lt hf; omega
  have hh2 : w2.heap[b2]? = some (.cells #[.int .i64 0, .slice none 0 0, .bool false] 35 (0, 0)) := by
    rw [fr2.only.block b2 (by rw [laid_size]; omega) (nf b2 (by omega) (by omega) (by omega)), ← hb2]
    exact laid_b2 w E fa fc ka kc ra rc _ _
  have hh3 : w2.heap[b3]? = some (.cells #[.int .i64 0, .bool false, .bool false, .int .i64 0, .bool false, .slice none 0 0, .bool false, .slice none 0 0, .bool false] 26 (0, 0)) := by
    rw [fr2.only.block b3 (by rw [laid_size]; omega) (nf b3 (by omega) (by omega) (by omega)), ← hb3]
    exact laid_b3 w E fa fc ka kc ra rc _ _
  obtain ⟨cc2, cf2⟩ := told hh2
  obtain ⟨cc3, cf3⟩ := told hh3
  obtain ⟨cc4, cf4⟩ := told ev3.cells
  have lt2 : b2 < w2.heap.size := by omega
  have lt3 : b3 < w2.heap.size := by omega
  have lt4 : b4 < w2.heap.size := by omega
  have n24 : ¬ b2 = b4 := by omega
  have n42 : ¬ b4 = b2 := by omega
  have n34 : ¬ b3 = b4 := by omega
  have n43 : ¬ b4 = b3 := by omega
  have n23 : ¬ b2 = b3 := by omega
  have n32 : ¬ b3 = b2 := by omega
  have EV2 := hide ev3
  have FR2 := hide fr2
  have HB2 : Hid (w.heap.size ≤ b2) := by show _ ≤ _; omega
  have HB3 : Hid (w.heap.size ≤ b3) := by show _ ≤ _; omega
  have HH2 := hide hh2
  have HH3 := hide hh3
  simp only [fldE] at cc4
  have e0 := cc4 0
  have e1 := cc4 1
  have e2 := cc4 2
  simp at e0 e1 e2
  clear ev3 ev2 fr2 hh2 hh3 nf hb2 hb3 hb4 hb6 sz cc4 cf4 HSP HMK
  go_region_held3 (fun w' => w'.cell? ⟨b4, 0, none⟩ = some (.int .i64 L) ∧ w'.cell? ⟨b4, 1, none⟩ = some (.slice fa2 F.length fc2) ∧ w'.cell? ⟨b4, 2, none⟩ = some (.bool (isData F))) (go_keep)
    (first | (go_at_call 24; refine (out_any _ b6 ka2 kc2 ra2 rc2 T EV2.out.scan.drew).mono ?_; rintro e w3 ⟨rfl, nn, rfl⟩; simp only [fld]))
  go_wp2
  refine bodyPost_ret (v := .tuple #[.agg (fldE ⟨L, F, T⟩ fa2 fc2), .agg (fld T ka2 kc2 ra2 rc2), .int .i64 n, .bool ok, .int .i64 delim]) ?_ rfl ?_
  · simp [results, Trym.results15, fld, fldE, go_sem, *]
  · refine ⟨fa2, fc2, ka2, kc2, ra2, rc2, rfl, left_of EV2.out FR2.out HH2.out HH3.out HB2.out HB3.out ?_⟩
    exact ((((((((((((((Only.refl w2 _).alloc _).drewN _).setCell ⟨b2, 0, none⟩ _ (fun _ => .inl rfl)).setCell ⟨b2, 1, none⟩ _ (fun _ => .inl rfl)).setCell ⟨b2, 2, none⟩ _ (fun _ => .inl rfl)).setCell ⟨b3, 0, none⟩ _ (fun _ => .inr rfl)).setCell ⟨b3, 1, none⟩ _ (fun _ => .inr rfl)).setCell ⟨b3, 2, none⟩ _ (fun _ => .inr rfl)).setCell ⟨b3, 3, none⟩ _ (fun _ => .inr rfl)).setCell ⟨b3, 4, none⟩ _ (fun _ => .inr rfl)).setCell ⟨b3, 5, none⟩ _ (fun _ => .inr rfl)).setCell ⟨b3, 6, none⟩ _ (fun _ => .inr rfl)).setCell ⟨b3, 7, none⟩ _ (fun _ => .inr rfl)).setCell ⟨b3, 8, none⟩ _ (fun _ => .inr rfl)

end Go.Proofs.Qxb6603984aMods
