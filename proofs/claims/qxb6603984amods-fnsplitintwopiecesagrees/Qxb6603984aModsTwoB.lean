/-
  WHAT THE LAST COMPARISON SEES.
-/
import Derived.Test.Qxb6603984aModsTwoA
namespace Go.Proofs.Qxb6603984aMods
open Go.RowKit Plain

/-- The key and the id stay short. -/
def Small (S : Sc) : Prop := S.key.length ≤ 7 ∧ S.raw.length ≤ 65

theorem upL_len (xs : List Int) (c : Int) (m : Nat) (h : xs.length ≤ m + 1) : (upL xs c m).length ≤ m + 1 := by
  unfold upL
  split
  · exact h
  · simp; omega

theorem inStr_small (S : Sc) (c : Int) (h : Small S) : Small (inStr S c) := by
  have h1 := upL_len S.key c 6 h.1
  have h2 := upL_len S.raw c 64 h.2
  unfold inStr
  split
  · split
    · exact h
    · refine ⟨h.1, ?_⟩
      show (if S.inID = true then upL S.raw c 64 else S.raw).length ≤ 65
      split
      · exact h2
      · exact h.2
  · refine ⟨?_, ?_⟩
    · show (if S.inKey = true then upL S.key c 6 else S.key).length ≤ 7
      split
      · exact h1
      · exact h.1
    · show (if S.inID = true then upL S.raw c 64 else S.raw).length ≤ 65
      split
      · exact h2
      · exact h.2

theorem preV_small (S : Sc) (c : Int) (h : Small S) : Small (preV S c) := by
  unfold preV startV
  split
  · split
    · exact ⟨h.1, by simp⟩
    · exact h
  · exact h

theorem swV_small (S : Sc) (c : Int) (h : Small S) : Small (swV S c) := by
  have h2 := upL_len S.raw c 64 h.2
  have h3 : (if S.inID = true then upL S.raw c 64 else S.raw).length ≤ 65 := by
    split
    · exact h2
    · exact h.2
  unfold swV
  split
  · refine ⟨?_, h3⟩
    show (if S.pos = 1 then [] else S.key).length ≤ 7
    split
    · simp
    · exact h.1
  · split
    · exact h
    · split
      · exact h
      · split
        · split <;> exact h
        · split
          · exact h
          · exact ⟨h.1, h3⟩

theorem step_small (S : Sc) (c : Int) (h : Small S) : Small (Plain.step S c) := by
  unfold Plain.step
  split
  · exact inStr_small S c h
  · exact swV_small _ c (preV_small S c h)

theorem byteE_small (E : Ev) (c : Int) (h : Small E.sc) : Small (byteE E c).sc := by
  unfold byteE
  split
  · exact h
  · show Small (if isData E.field = true then Plain.step E.sc c else E.sc)
    split
    · exact step_small _ _ h
    · exact h

theorem splitL_small (l : List Int) : ∀ (E : Ev), Small E.sc → Small (splitL E l).ev.sc := by
  induction l with
  | nil => intro E h; exact h
  | cons c r ih =>
    intro E h
    unfold splitL
    split
    · split
      · exact h
      · exact ih (resetE E) h
    · exact ih (byteE E c) (byteE_small E c h)

theorem splitL_grow (l : List Int) : ∀ (E : Ev), (splitL E l).ev.line ≤ E.line + l.length := by
  induction l with
  | nil => intro E; exact Nat.le_refl _
  | cons c r ih =>
    intro E
    unfold splitL
    split
    · split
      · exact Nat.zero_le _
      · have := ih (resetE E)
        have h0 : (resetE E).line = 0 := rfl
        have h1 : ((splitL (resetE E) r).more 1).ev = (splitL (resetE E) r).ev := rfl
        rw [h1]
        simp only [List.length_cons]
        omega
    · have := ih (byteE E c)
      have h0 : (byteE E c).line = E.line + 1 := by unfold byteE; split <;> rfl
      have h1 : ((splitL (byteE E c) r).more 1).ev = (splitL (byteE E c) r).ev := rfl
      rw [h1]
      simp only [List.length_cons]
      omega

theorem zero_small : Small zeroSc := ⟨by simp [zeroSc], by simp [zeroSc]⟩

/-- THE TWO VARIABLES 'ev' AND 'sc' AND THEIR ROWS, AS THE LAST COMPARISON SEES THEM. -/
structure Sees (w : World) (e s : Nat) (L : Nat) (F : List Int) (T : Sc) (fa : Option Addr) (fc : Nat) (ka : Option Addr) (kc : Nat) (ra : Option Addr) (rc : Nat) : Prop where
  rf : Rd w fa F
  rk : Rd w ka T.key
  rr : Rd w ra T.raw
  e0 : w.cell? ⟨e, 0, none⟩ = some (.int .i64 L)
  e1 : w.cell? ⟨e, 1, none⟩ = some (.slice fa F.length fc)
  e2 : w.cell? ⟨e, 2, none⟩ = some (.bool (isData F))
  s0 : w.cell? ⟨s, 0, none⟩ = some (.int .i64 T.depth)
  s1 : w.cell? ⟨s, 1, none⟩ = some (.bool T.str)
  s2 : w.cell? ⟨s, 2, none⟩ = some (.bool T.esc)
  s3 : w.cell? ⟨s, 3, none⟩ = some (.int .i64 T.pos)
  s4 : w.cell? ⟨s, 4, none⟩ = some (.bool T.inKey)
  s5 : w.cell? ⟨s, 5, none⟩ = some (.slice ka T.key.length kc)
  s6 : w.cell? ⟨s, 6, none⟩ = some (.bool T.inID)
  s7 : w.cell? ⟨s, 7, none⟩ = some (.slice ra T.raw.length rc)
  s8 : w.cell? ⟨s, 8, none⟩ = some (.bool T.method)

theorem cell_kept {w w' : World} (ho : Only w w' (fun _ => False)) {b i : Nat} {v : Value} (h : w.cell? ⟨b, i, none⟩ = some v) : w'.cell? ⟨b, i, none⟩ = some v := by
  rw [World.cell?_of_block (a := ⟨b, i, none⟩) (ho.block b (World.block_lt_of_cell? w _ h) (fun f => f))]
  exact h

theorem Sees.kept {w w' : World} {e s : Nat} {L : Nat} {F : List Int} {T : Sc} {fa : Option Addr} {fc : Nat} {ka : Option Addr} {kc : Nat} {ra : Option Addr} {rc : Nat} (h : Sees w e s L F T fa fc ka kc ra rc) (ho : Only w w' (fun _ => False)) : Sees w' e s L F T fa fc ka kc ra rc :=
  ⟨h.rf.kept ho (fun _ _ f => f), h.rk.kept ho (fun _ _ f => f), h.rr.kept ho (fun _ _ f => f), cell_kept ho h.e0, cell_kept ho h.e1, cell_kept ho h.e2, cell_kept ho h.s0, cell_kept ho h.s1, cell_kept ho h.s2, cell_kept ho h.s3, cell_kept ho h.s4, cell_kept ho h.s5, cell_kept ho h.s6, cell_kept ho h.s7, cell_kept ho h.s8⟩

theorem After.sees {w5 w : World} {e s : Nat} {L : Nat} {F : List Int} {T : Sc} {fa : Option Addr} {fc : Nat} {ka : Option Addr} {kc : Nat} {ra : Option Addr} {rc : Nat} (h : After w5 w e s L F T fa fc ka kc ra rc) : Sees w e s L F T fa fc ka kc ra rc :=
  ⟨h.rows.field.rd, h.rows.key.rd, h.rows.raw.rd, h.e0, h.e1, h.e2, h.s0, h.s1, h.s2, h.s3, h.s4, h.s5, h.s6, h.s7, h.s8⟩

theorem sees_of {w : World} {e s : Nat} {L : Nat} {F : List Int} {T : Sc} {fa : Option Addr} {fc : Nat} {ka : Option Addr} {kc : Nat} {ra : Option Addr} {rc : Nat} (hf : Own w fa fc F) (hk : Own w ka kc T.key) (hr : Own w ra rc T.raw)
    (he : w.heap[e]? = some (.cells #[.int .i64 ↑L, .slice fa F.length fc, .bool (isData F)] 35 (0, 0))) (hs : w.heap[s]? = some (.cells (fld T ka kc ra rc) 26 (0, 0))) : Sees w e s L F T fa fc ka kc ra rc := by
  obtain ⟨ce, _⟩ := told he
  obtain ⟨cs, _⟩ := told hs
  exact ⟨hf.rd, hk.rd, hr.rd, ce 0, ce 1, ce 2, cs 0, cs 1, cs 2, cs 3, cs 4, cs 5, cs 6, cs 7, cs 8⟩

/-- The rest of the row, from its byte k on. -/
theorem Own.prow_drop {w : World} {g : Nat} {c : Nat} {xs : List Int} {F : Nat → Prop} (h : Own w (some ⟨g, 0, none⟩) c xs) (k : Nat) (hk : k ≤ xs.length) (hF : ¬ F g) : PRow w (some ⟨g, k, none⟩) (c - k) (xs.drop k) F := by
  obtain ⟨h1, h2⟩ := h.prow (F := F) (fun b hb => by simp [blk] at hb; subst hb; exact hF)
  refine ⟨by simp; omega, ?_⟩
  rcases h2 with rfl | ⟨pb, off, he, hp, hf, hc⟩
  · exact .inl (by simp)
  · simp at he
    obtain ⟨rfl, rfl⟩ := he
    refine .inr ⟨g, k, rfl, hp, hf, fun j hj => ?_⟩
    have hj' : k + j < xs.length := by simp at hj; omega
    have := hc (k + j) hj'
    rw [Nat.zero_add] at this
    rw [this]
    simp [List.getD, List.getElem?_drop]

/-! ### The second piece -/
theorem rule8 {wc X8 w8 : World} {E : Ev} {fa : Option Addr} {fc : Nat} {ka : Option Addr} {kc : Nat} {ra : Option Addr} {rc : Nat} (h : Rows3 wc fa fc ka kc ra rc E) (l : Only X8 w8 (Foot3 fa ka ra)) :
    (∀ b i, wc.heap.size ≤ b → b < X8.heap.size → w8.cell? ⟨b, i, none⟩ = X8.cell? ⟨b, i, none⟩) ∧ (∀ b i, wc.heap.size ≤ b → b < X8.heap.size → w8.frozen? ⟨b, i, none⟩ = X8.frozen? ⟨b, i, none⟩) := by
  have h' : ∀ b, wc.heap.size ≤ b → b < X8.heap.size → w8.heap[b]? = X8.heap[b]? := by
    intro b hb hb'
    exact l.block b hb' (fun hF => by have := blk_lt3 h b hF; omega)
  exact ⟨fun b i hb hb' => World.cell?_of_block (a := ⟨b, i, none⟩) (h' b hb hb'), fun b i hb hb' => World.frozen?_of_block (a := ⟨b, i, none⟩) (h' b hb hb')⟩

theorem lies8 {w5 wc X8 w8 : World} {e s : Nat} {L : Nat} {F : List Int} {T : Sc} {E' : Ev} {fa : Option Addr} {fc : Nat} {ka : Option Addr} {kc : Nat} {ra : Option Addr} {rc : Nat} {fa' : Option Addr} {fc' : Nat} {ka' : Option Addr} {kc' : Nat} {ra' : Option Addr} {rc' : Nat}
    (h : After w5 wc e s L F T fa fc ka kc ra rc) (l : Left15 X8 fa ka ra w8 E' fa' fc' ka' kc' ra' rc') : ∀ g, Foot3 fa' ka' ra' g → (w5.heap.size ≤ g ∧ g < wc.heap.size) ∨ (X8.heap.size ≤ g ∧ g < w8.heap.size) := by
  intro g hg
  have hlt := blk_lt3 l.1 g hg
  have old : Foot3 fa ka ra g → w5.heap.size ≤ g ∧ g < wc.heap.size := fun hf => ⟨(h.new g hf).1, blk_lt3 h.rows g hf⟩
  rcases hg with hg | hg | hg
  · rcases l.2.2.1 g hg with h1 | h1
    · exact .inl (old (.inl h1))
    · exact .inr ⟨h1, hlt⟩
  · rcases l.2.2.2.1 g hg with h1 | h1
    · exact .inl (old (.inr (.inl h1)))
    · exact .inr ⟨h1, hlt⟩
  · rcases l.2.2.2.2 g hg with h1 | h1
    · exact .inl (old (.inr (.inr h1)))
    · exact .inr ⟨h1, hlt⟩

theorem keep12 {w5 wc X8 w8 : World} {e s : Nat} {L : Nat} {F : List Int} {T : Sc} {fa : Option Addr} {fc : Nat} {ka : Option Addr} {kc : Nat} {ra : Option Addr} {rc : Nat}
    (h : After w5 wc e s L F T fa fc ka kc ra rc) (k : Only wc X8 (fun _ => False)) (l : Only X8 w8 (Foot3 fa ka ra)) :
    w8.cell? ⟨e, 0, none⟩ = some (.int .i64 L) ∧ w8.cell? ⟨e, 1, none⟩ = some (.slice fa F.length fc) ∧ w8.cell? ⟨e, 2, none⟩ = some (.bool (isData F)) ∧
    w8.cell? ⟨s, 0, none⟩ = some (.int .i64 T.depth) ∧ w8.cell? ⟨s, 1, none⟩ = some (.bool T.str) ∧ w8.cell? ⟨s, 2, none⟩ = some (.bool T.esc) ∧ w8.cell? ⟨s, 3, none⟩ = some (.int .i64 T.pos) ∧ w8.cell? ⟨s, 4, none⟩ = some (.bool T.inKey) ∧
    w8.cell? ⟨s, 5, none⟩ = some (.slice ka T.key.length kc) ∧ w8.cell? ⟨s, 6, none⟩ = some (.bool T.inID) ∧ w8.cell? ⟨s, 7, none⟩ = some (.slice ra T.raw.length rc) ∧ w8.cell? ⟨s, 8, none⟩ = some (.bool T.method) := by
  have hm : ∀ b i v, (b = e ∨ b = s) → wc.cell? ⟨b, i, none⟩ = some v → w8.cell? ⟨b, i, none⟩ = some v := by
    intro b i v hb hv
    have hlt : b < wc.heap.size := World.block_lt_of_cell? wc _ hv
    have h1 := cell_kept k hv
    rw [← h1]
    refine World.cell?_of_block (a := ⟨b, i, none⟩) (l.block b (by have := k.size; show b < _; omega) (fun hF => ?_))
    have := h.new b hF
    rcases hb with rfl | rfl
    · exact this.2.1 rfl
    · exact this.2.2 rfl
  exact ⟨hm _ _ _ (.inl rfl) h.e0, hm _ _ _ (.inl rfl) h.e1, hm _ _ _ (.inl rfl) h.e2, hm _ _ _ (.inr rfl) h.s0, hm _ _ _ (.inr rfl) h.s1, hm _ _ _ (.inr rfl) h.s2, hm _ _ _ (.inr rfl) h.s3, hm _ _ _ (.inr rfl) h.s4, hm _ _ _ (.inr rfl) h.s5, hm _ _ _ (.inr rfl) h.s6, hm _ _ _ (.inr rfl) h.s7, hm _ _ _ (.inr rfl) h.s8⟩

/-- ZZSplitB1 on what the first piece has left, at the rest of the bytes, in any world that is wc and what is new. -/
theorem zz_rest {w5 wc : World} {e s : Nat} {LA : Nat} {FA : List Int} {TA : Sc} {fa : Option Addr} {fc : Nat} {ka : Option Addr} {kc : Nat} {ra : Option Addr} {rc : Nat} (h : After w5 wc e s LA FA TA fa fc ka kc ra rc) (a : Option Addr) (c : Nat) (xs : List Int)
    (hp : PRow wc a c xs (Foot3 fa ka ra)) (hl : xs.length ≤ 1048576) (hline : LA ≤ 4294967296) (hf : FA.length = min LA 5) (hw : ∀ x ∈ xs, 0 ≤ x ∧ x ≤ 255) (L : Nat) (F : List Int) (T : Sc) (n : Nat) (ok : Bool) (dl : Nat) (hO : (⟨⟨L, F, T⟩, n, ok, dl⟩ : Out) = splitL ⟨LA, FA, TA⟩ xs) :
    ∀ X, Only wc X (fun _ => False) → Calls Trym.prog 15 #[.agg #[.int .i64 LA, .slice fa FA.length fc, .bool (isData FA)], .agg #[.int .i64 TA.depth, .bool TA.str, .bool TA.esc, .int .i64 TA.pos, .bool TA.inKey, .slice ka TA.key.length kc, .bool TA.inID, .slice ra TA.raw.length rc, .bool TA.method], .slice a xs.length c] X fun e w' => ∃ fa' fc' ka' kc' ra' rc',
      e = .returned (.tuple #[.agg #[.int .i64 L, .slice fa' F.length fc', .bool (isData F)], .agg (fld T ka' kc' ra' rc'), .int .i64 n, .bool ok, .int .i64 dl]) ∧ Left15 X fa ka ra w' ⟨L, F, T⟩ fa' fc' ka' kc' ra' rc' := by
  intro X hX
  have hr := h.rows
  have Z := zz_any X ⟨LA, FA, TA⟩ fa fc ka kc ra rc ⟨hr.field.kept hX (fun _ _ f => f), hr.key.kept hX (fun _ _ f => f), hr.raw.kept hX (fun _ _ f => f), hr.apart, hr.apartK, hr.apartR⟩ a c xs hl hline hf hw ⟨hp.1, by
    rcases hp.2 with h0 | ⟨pb, off, rfl, h1, h2, h3⟩
    · exact .inl h0
    · refine .inr ⟨pb, off, rfl, Nat.lt_of_lt_of_le h1 hX.size, h2, fun j hj => cell_kept hX (h3 j hj)⟩⟩
  rw [← hO] at Z
  exact Z

end Go.Proofs.Qxb6603984aMods
