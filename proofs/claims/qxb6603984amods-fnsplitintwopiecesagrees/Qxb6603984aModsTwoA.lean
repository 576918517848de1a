/-
  THE PLAIN LAW AND THE HELPERS OF FnSplitInTwoPiecesAgrees.
-/
import Derived.Test.Qxb6603984aModsZZB
import Derived.Test.Qxb6603984aModsEq
import Derived.Deep.RegionHeld3
import Derived.Deep.Cut
namespace Go.Proofs.Qxb6603984aMods
open Go.RowKit Plain

theorem splitL_pos (l : List Int) : ∀ (E : Ev), (splitL E l).ok = true → 1 ≤ (splitL E l).n := by
  induction l with
  | nil => intro E h; simp [splitL] at h
  | cons c r ih =>
    intro E h
    by_cases hc : c = 10
    · by_cases hb : blankE E = true
      · simp [splitL, hc, hb]
      · simp only [splitL, hc, hb, if_true, Out.more]
        simp
    · simp only [splitL, hc, if_false, Out.more]
      omega

/-- The two pieces and the whole. -/
theorem two_case (E : Ev) (xs : List Int) (k : Nat) (hk : k ≤ xs.length) :
    ((splitL E xs).ok = true ∧ (splitL E xs).n ≤ k → splitL E xs = splitL E (xs.take k)) ∧
    (¬ ((splitL E xs).ok = true ∧ (splitL E xs).n ≤ k) → (splitL E (xs.take k)).ok = false ∧ (splitL E (xs.take k)).n = k ∧ (splitL E (xs.take k)).delim = 0 ∧ splitL E xs = (splitL (splitL E (xs.take k)).ev (xs.drop k)).more k) := by
  have h2 := splitL_two (xs.take k) E (xs.drop k)
  rw [List.take_append_drop] at h2
  have hl : (xs.take k).length = k := by simp; omega
  rw [hl] at h2
  have hle := splitL_le (xs.take k) E
  rw [hl] at hle
  cases ho : (splitL E (xs.take k)).ok with
  | true =>
    rw [if_pos ho] at h2
    refine ⟨fun _ => h2, fun hn => ?_⟩
    exact absurd ⟨by rw [h2]; exact ho, by rw [h2]; exact hle⟩ hn
  | false =>
    rw [if_neg (by rw [ho]; decide)] at h2
    have hno := splitL_no (xs.take k) E ho
    rw [hl] at hno
    refine ⟨fun hy => ?_, fun _ => ⟨rfl, hno.1, hno.2, h2⟩⟩
    have hok : (splitL (splitL E (xs.take k)).ev (xs.drop k)).ok = true := by
      have := hy.1
      rw [h2] at this
      exact this
    have hp := splitL_pos _ _ hok
    have hn := hy.2
    rw [h2] at hn
    simp only [Out.more] at hn
    omega

def zeroSc : Sc := { depth := 0, str := false, esc := false, pos := 0, inKey := false, key := [], inID := false, raw := [], method := false }

theorem rows_start {w : World} {a : Option Addr} {c : Nat} {f : List Int} (h : Own w a c f) (line : Nat) : Rows3 w a c none 0 none 0 ⟨line, f, zeroSc⟩ :=
  ⟨h, Own.none_ w, Own.none_ w, fun g hg => by simp [blk] at hg, fun g _ hg => by simp [blk] at hg, fun g _ hg => by simp [blk] at hg⟩

theorem Cl.kept {w w' : World} {a : Option Addr} {c : Nat} {xs : List Int} (h : Cl w a c xs) (ho : Only w w' (fun _ => False)) : Cl w' a c xs := by
  rcases h with h | ⟨x, rfl, hc⟩
  · exact .inl h
  · refine .inr ⟨x, rfl, fun i hi => ?_⟩
    have hlt : (x.add i).block < w.heap.size := World.block_lt_of_cell? w _ (hc i hi)
    rw [World.cell?_of_block (w := w) (ho.block _ hlt (fun f => f))]
    exact hc i hi

theorem Own.kept {w w' : World} {a : Option Addr} {c : Nat} {xs : List Int} {F : Nat → Prop} (h : Own w a c xs) (ho : Only w w' F) (hF : ∀ g, blk a = some g → ¬ F g) : Own w' a c xs :=
  h.same (fun g hg => ho.block g (h.lt hg) (hF g hg))

/-- A row of the call's own, read from its head: all of it, or its first k bytes. -/
theorem Own.prow {w : World} {a : Option Addr} {c : Nat} {xs : List Int} {F : Nat → Prop} (h : Own w a c xs) (hF : ∀ g, blk a = some g → ¬ F g) : PRow w a c xs F := by
  refine ⟨h.le, ?_⟩
  rcases h.form with ⟨rfl, rfl, rfl⟩ | ⟨g, cur, rfl, hh, _⟩
  · exact .inl rfl
  · refine .inr ⟨g, 0, rfl, (Array.getElem?_eq_some_iff.1 hh).1, hF g rfl, fun j hj => ?_⟩
    obtain ⟨g', he, hc⟩ := h.get j hj
    simp at he
    subst he
    simpa using hc

theorem Own.drew {w : World} {a : Option Addr} {c : Nat} {xs : List Int} (h : Own w a c xs) : Own w.drew a c xs := h.same (fun _ _ => rfl)
theorem Own.drewN {w : World} {a : Option Addr} {c : Nat} {xs : List Int} (h : Own w a c xs) (n : Nat) : Own (w.drewN n) a c xs := h.same (fun _ _ => rfl)

theorem Own.prow_take {w : World} {a : Option Addr} {c : Nat} {xs : List Int} {F : Nat → Prop} (h : Own w a c xs) (k : Nat) (hF : ∀ g, blk a = some g → ¬ F g) : PRow w a c (xs.take k) F := by
  obtain ⟨h1, h2⟩ := h.prow hF
  refine ⟨by simp; omega, ?_⟩
  rcases h2 with rfl | ⟨pb, off, rfl, hp, hf, hc⟩
  · exact .inl (by simp)
  · refine .inr ⟨pb, off, rfl, hp, hf, fun j hj => ?_⟩
    have hj' : j < k ∧ j < xs.length := by simp at hj; omega
    rw [hc j hj'.2]
    simp [List.getD, hj'.1]

/-- ZZSplitB1 over a fresh scan and a clone of the field, at the first k bytes. -/
theorem zz_piece (w : World) (line : Nat) (f : List Int) (g : Option Addr) (cg : Nat) (o : Own w g cg f) (p : Option Addr) (cp : Nat) (z : List Int) (op : Own w p cp z) (k : Nat) (hk : k ≤ z.length) (hsep : ∀ b, blk p = some b → blk g ≠ some b)
    (hz : z.length ≤ 65536) (hline : line ≤ 1073741824) (hf : f.length = min line 5) (hw : ∀ x ∈ z, 0 ≤ x ∧ x ≤ 255) (L : Nat) (F : List Int) (T : Sc) (n : Nat) (ok : Bool) (dl : Nat) (hO : (⟨⟨L, F, T⟩, n, ok, dl⟩ : Out) = splitL ⟨line, f, zeroSc⟩ (z.take k)) :
    Calls Trym.prog 15 #[.agg #[.int .i64 line, .slice g f.length cg, .bool (isData f)], .agg #[.int .i64 0, .bool false, .bool false, .int .i64 0, .bool false, .slice none 0 0, .bool false, .slice none 0 0, .bool false], .slice p k cp] w fun e w' => ∃ fa' fc' ka' kc' ra' rc',
      e = .returned (.tuple #[.agg #[.int .i64 L, .slice fa' F.length fc', .bool (isData F)], .agg (fld T ka' kc' ra' rc'), .int .i64 n, .bool ok, .int .i64 dl]) ∧ Left15 w g none none w' ⟨L, F, T⟩ fa' fc' ka' kc' ra' rc' := by
  have Z := zz_any w ⟨line, f, zeroSc⟩ g cg none 0 none 0 (rows_start o line) p cp (z.take k) (by simp; omega) (by show line ≤ _; omega) hf (fun x hx => hw x (List.mem_of_mem_take hx)) (op.prow_take k (fun b hb hF => by
    rcases hF with hF | hF | hF
    · exact hsep b hb hF
    · simp [blk] at hF
    · simp [blk] at hF))
  have hl : (z.take k).length = k := by simp; omega
  rw [← hO, hl] at Z
  exact Z

/-! ### The rules that a drawn statement of two calls and two new variables wants -/
theorem rule6 {X6 w6 : World} (k6 : Only X6 w6 (fun _ => False)) : (∀ b i, b < X6.heap.size → w6.cell? ⟨b, i, none⟩ = X6.cell? ⟨b, i, none⟩) ∧ (∀ b i, b < X6.heap.size → w6.frozen? ⟨b, i, none⟩ = X6.frozen? ⟨b, i, none⟩) :=
  ⟨fun b i hb => World.cell?_of_block (a := ⟨b, i, none⟩) (k6.block b hb (fun f => f)), fun b i hb => World.frozen?_of_block (a := ⟨b, i, none⟩) (k6.block b hb (fun f => f))⟩

theorem rule7 {X6 w6 X7 w7 : World} {g2 : Option Addr} (n6 : ∀ g, blk g2 = some g → X6.heap.size ≤ g) (k6 : Only X6 w6 (fun _ => False)) (k7 : Only w6 X7 (fun _ => False)) (l : Only X7 w7 (Foot3 g2 none none)) :
    (∀ b i, b < X6.heap.size → w7.cell? ⟨b, i, none⟩ = X6.cell? ⟨b, i, none⟩) ∧ (∀ b i, b < X6.heap.size → w7.frozen? ⟨b, i, none⟩ = X6.frozen? ⟨b, i, none⟩) := by
  have h : ∀ b, b < X6.heap.size → w7.heap[b]? = X6.heap[b]? := by
    intro b hb
    have s6 := k6.size
    have s7 := k7.size
    rw [l.block b (by omega) (fun hF => by
      rcases hF with hF | hF | hF
      · have := n6 b hF; omega
      · simp [blk] at hF
      · simp [blk] at hF), k7.block b (by omega) (fun f => f), k6.block b hb (fun f => f)]
  exact ⟨fun b i hb => World.cell?_of_block (a := ⟨b, i, none⟩) (h b hb), fun b i hb => World.frozen?_of_block (a := ⟨b, i, none⟩) (h b hb)⟩

theorem rule7b {w6 X7 w7 : World} {g2 : Option Addr} {cg2 : Nat} {f : List Int} (o6 : Own w6 g2 cg2 f) (l : Only X7 w7 (Foot3 g2 none none)) :
    (∀ b i, w6.heap.size ≤ b → b < X7.heap.size → w7.cell? ⟨b, i, none⟩ = X7.cell? ⟨b, i, none⟩) ∧ (∀ b i, w6.heap.size ≤ b → b < X7.heap.size → w7.frozen? ⟨b, i, none⟩ = X7.frozen? ⟨b, i, none⟩) := by
  have h : ∀ b, w6.heap.size ≤ b → b < X7.heap.size → w7.heap[b]? = X7.heap[b]? := by
    intro b hb hb'
    exact l.block b hb' (fun hF => by
      rcases hF with hF | hF | hF
      · have := o6.lt hF; omega
      · simp [blk] at hF
      · simp [blk] at hF)
  exact ⟨fun b i hb hb' => World.cell?_of_block (a := ⟨b, i, none⟩) (h b hb hb'), fun b i hb hb' => World.frozen?_of_block (a := ⟨b, i, none⟩) (h b hb hb')⟩

theorem sz1 {X w : World} (h : X.heap.size ≤ w.heap.size) (b : Nat) : b < X.heap.size → b < w.heap.size := fun hb => by omega
theorem sz2 {X w : World} (h : X.heap.size ≤ w.heap.size) (b : Nat) : b < X.heap.size → b ≠ w.heap.size := fun hb => by omega
theorem sz3 {X w : World} (h : X.heap.size ≤ w.heap.size) (b : Nat) : b < X.heap.size → w.heap.size ≠ b := fun hb => by omega
theorem sz4 {X w : World} (h : X.heap.size ≤ w.heap.size) (b : Nat) : b < X.heap.size → b ≠ w.heap.size + 1 := fun hb => by omega
theorem sz5 {X w : World} (h : X.heap.size ≤ w.heap.size) (b : Nat) : b < X.heap.size → w.heap.size + 1 ≠ b := fun hb => by omega
theorem sz6 {X w : World} (h : X.heap.size ≤ w.heap.size) (b : Nat) : b < X.heap.size → b < w.heap.size + 1 := fun hb => by omega

/-- Where the rows of what came back lie. -/
theorem lies7 {X6 w6 X7 w7 : World} {g2 : Option Addr} {cg2 : Nat} {f : List Int} {E' : Ev} {fa : Option Addr} {fc : Nat} {ka : Option Addr} {kc : Nat} {ra : Option Addr} {rc : Nat} (n6 : ∀ g, blk g2 = some g → X6.heap.size ≤ g) (o6 : Own w6 g2 cg2 f)
    (l : Left15 X7 g2 none none w7 E' fa fc ka kc ra rc) : ∀ g, Foot3 fa ka ra g → (X6.heap.size ≤ g ∧ g < w6.heap.size) ∨ (X7.heap.size ≤ g ∧ g < w7.heap.size) := by
  intro g hg
  have hlt := blk_lt3 l.1 g hg
  rcases hg with hg | hg | hg
  · rcases l.2.2.1 g hg with h | h
    · exact .inl ⟨n6 g h, o6.lt h⟩
    · exact .inr ⟨h, hlt⟩
  · rcases l.2.2.2.1 g hg with h | h
    · simp [blk] at h
    · exact .inr ⟨h, hlt⟩
  · rcases l.2.2.2.2 g hg with h | h
    · simp [blk] at h
    · exact .inr ⟨h, hlt⟩

/-- WHAT STANDS BEHIND 'ev, sc, n, ok, delim := ZZSplitB1(..)': the two variables and the rows that they lead to. -/
structure After (w5 w : World) (e s : Nat) (L : Nat) (F : List Int) (T : Sc) (fa : Option Addr) (fc : Nat) (ka : Option Addr) (kc : Nat) (ra : Option Addr) (rc : Nat) : Prop where
  only : Only w5 w (fun _ => False)
  rows : Rows3 w fa fc ka kc ra rc ⟨L, F, T⟩
  new : ∀ g, Foot3 fa ka ra g → w5.heap.size ≤ g ∧ g ≠ e ∧ g ≠ s
  e0 : w.cell? ⟨e, 0, none⟩ = some (.int .i64 L)
  e1 : w.cell? ⟨e, 1, none⟩ = some (.slice fa F.length fc)
  e2 : w.cell? ⟨e, 2, none⟩ = some (.bool (isData F))
  s0 : w.cell? ⟨s, 0, none⟩ = some (.int .i64 T.depth)
  s1 : w.cell? ⟨s, 1, none⟩ = some (.bool T.str)
  s2 : w.cell? ⟨s, 2, none⟩ = some (.bool T.esc)
  s3 : w.cell? ⟨s, 3, none⟩ = some (.int .i64 T.pos)
  s4 : w.cell? ⟨s, 4, none⟩ = some (.bool T.inKey)
  s5 : w.cell? ⟨s, 5, none⟩ = some (.slice ka T.key.length kc)
  s6 : w.cell? ⟨s, 6, none⟩ = some (.bool T.inID)
  s7 : w.cell? ⟨s, 7, none⟩ = some (.slice ra T.raw.length rc)
  s8 : w.cell? ⟨s, 8, none⟩ = some (.bool T.method)

theorem after_of {w5 w7 w : World} {e s : Nat} {L : Nat} {F : List Int} {T : Sc} {fa : Option Addr} {fc : Nat} {ka : Option Addr} {kc : Nat} {ra : Option Addr} {rc : Nat}
    (S7 : Only w5 w7 (fun _ => False)) (R7 : Rows3 w7 fa fc ka kc ra rc ⟨L, F, T⟩) (ho : Only w7 w (fun k => k = e ∨ k = s)) (he : w5.heap.size ≤ e) (hs : w5.heap.size ≤ s) (hn : ∀ g, Foot3 fa ka ra g → w5.heap.size ≤ g ∧ g ≠ e ∧ g ≠ s)
    (e0 : w.cell? ⟨e, 0, none⟩ = some (.int .i64 L)) (e1 : w.cell? ⟨e, 1, none⟩ = some (.slice fa F.length fc)) (e2 : w.cell? ⟨e, 2, none⟩ = some (.bool (isData F)))
    (s0 : w.cell? ⟨s, 0, none⟩ = some (.int .i64 T.depth)) (s1 : w.cell? ⟨s, 1, none⟩ = some (.bool T.str)) (s2 : w.cell? ⟨s, 2, none⟩ = some (.bool T.esc)) (s3 : w.cell? ⟨s, 3, none⟩ = some (.int .i64 T.pos)) (s4 : w.cell? ⟨s, 4, none⟩ = some (.bool T.inKey))
    (s5 : w.cell? ⟨s, 5, none⟩ = some (.slice ka T.key.length kc)) (s6 : w.cell? ⟨s, 6, none⟩ = some (.bool T.inID)) (s7 : w.cell? ⟨s, 7, none⟩ = some (.slice ra T.raw.length rc)) (s8 : w.cell? ⟨s, 8, none⟩ = some (.bool T.method)) :
    After w5 w e s L F T fa fc ka kc ra rc := by
  have hF : ∀ g, Foot3 fa ka ra g → ¬ (g = e ∨ g = s) := fun g hg h => by
    have := hn g hg
    rcases h with h | h
    · exact this.2.1 h
    · exact this.2.2 h
  refine ⟨S7.trans ho (fun k hk hf => by omega), ⟨R7.field.kept ho (fun g hg => hF g (.inl hg)), R7.key.kept ho (fun g hg => hF g (.inr (.inl hg))), R7.raw.kept ho (fun g hg => hF g (.inr (.inr hg))), R7.apart, R7.apartK, R7.apartR⟩, hn, e0, e1, e2, s0, s1, s2, s3, s4, s5, s6, s7, s8⟩

end Go.Proofs.Qxb6603984aMods
